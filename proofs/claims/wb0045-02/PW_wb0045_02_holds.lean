import PyProof.Rows.All
import Wide.All
import OpenK.AllK
import Wide.FinOn
import KE.KSortTup
import KE.KBits
import KE.BitLaws
import PySem.Challenge.RW_wb0045_02
open And renaming elim → AD, intro → GM
open Array renaming length_toList → AC, getElem?_toList → BL, getElem?_eq_getElem → CV, toList_push → C8, getElem?_eq_some_iff → DL, getElem?_eq_none → Ep, mem_iff_getElem → Ey, any_eq_false' → E0, toList_append → E4, getD_eq_getD_getElem? → E7
open Bool renaming and_eq_true → AG, and_eq_true_iff → AJ, false_eq_true → AY, false_ne_true → Bg, false_and → Cv, and_false → CP, noConfusion → Di, or_eq_true → D3, eq_iff_iff → D6, false_or → FK
open Classical renaming byContradiction → CU
open Exists renaming elim → Aq
open ForInStep renaming yield → Ca
open Int renaming natCast_nonneg → Bh, fmod_nonneg_of_pos → BX, ofNat_lt → CF, fmod_lt_of_pos → Dp, fdiv_eq_ediv_of_nonneg → DO, lt_irrefl → DW, eq_ofNat_of_zero_le → Ef, ofNat_le → Ei, lt_trans → Ej, ediv_nonneg → EX, lt_of_le_of_lt → Fa, fmod_eq_emod_of_nonneg → Ft, not_lt → Gg, le_of_lt → Gh, pow_succ → Gi, ne_of_gt → Gj
open LawfulBEq renaming eq_of_beq → CK
open List renaming length_map → Ab, range → Ac, getElem?_eq_getElem → Ad, getD_eq_getElem?_getD → Ae, getElem?_map → Aj, mem_cons_self → Am, length_append → Ao, getElem?_eq_some_iff → Ap, mem_of_getElem? → Aw, mem_cons_of_mem → Az, mem_singleton → AL, length_range → AM, map_congr_left → AN, replicate → AR, mem_cons → AS, lookup_cons → AU, append_assoc → AX, map_append → A0, length_set → A5, pairwise_cons → A6, zip_cons_cons → A9, getElem?_range → Ba, append_nil → Bf, mem_range → Bi, getElem?_set_ne → Bl, pairwise_iff_getElem → Bo, mem_map → Br, getElem?_set_self → Bs, length_filter_le → Bu, map_map → Bv, getElem?_replicate → Bw, filter_congr → Bx, map_cons → Bz, pairwise_append → BB, getElem?_append_left → BC, filter_eq_nil_iff → BD, length_singleton → BJ, getElem?_eq_none → BK, mem_range'_1 → BN, toArray → BQ, prefix_of_prefix_length_le → BR, mem_append → BW, length_cons → BY, all_eq_true → BZ, flatMap_cons → B7, size_toArray → Cd, forIn_cons → Cj, contains_iff_mem → Cn, sum_cons → Cr, mem_filter → CB, length_zip → CD, range' → CI, not_mem_nil → CJ, filter_append → CO, getElem?_append_right → CQ, length_nil → CW, nil_append → CX, range_succ → C0, mem_iff_getElem → C9, set_set → Db, filter_cons_of_pos → De, length_take → Df, pairwise_lt_range' → Dg, forIn_nil → Dh, getElem?_cons_succ → Dm, eq_nil_of_length_eq_zero → Dn, take_of_length_le → Dw, getElem?_of_mem → DI, range'_append_1 → DJ, getElem?_zipIdx → DK, getElem_mem → DP, replicate_succ → DT, getElem?_drop → Ea, pairwise_lt_range → El, mem_append_right → Et, take_append_drop → Eu, mem_flatMap → ED, any_eq_true → EI, set_comm → EL, dropLast_concat_getLast → ES, filter_map → ET, filterMap_cons → EZ, map_eq_nil_iff → E6, prefix_append → Fc, length_range' → Fd, getElem?_take → Fe, mem_or_eq_of_mem_set → Fw, length → Fx, ext_getElem? → Fy, pairwise_map → Fz, flatten_cons → FD, nodup_append → FF, getElem?_set → FG, map_inj_left → FH, cons_append → FV, take_length → FY, foldl_cons → Gl, nodup_cons → Gm, find?_cons → Go, of_mem_zip → Gp, map → GI
open Min renaming min → GN
open Nat renaming le_trans → Af, lt_of_lt_of_le → Ah, le_refl → Ak, lt_of_le_of_lt → An, le_of_lt → Av, eq_or_lt_of_le → AF, le_of_lt_succ → AH, zero_le → AI, lt_or_ge → AT, le_add_right → AZ, not_lt → Be, not_le → Bn, lt_succ_self → Bp, lt_trans → Bq, le_of_eq → BE, le_antisymm → BG, lt_irrefl → BV, add_sub_cancel' → B0, not_lt_zero → B8, ne_of_lt → B9, pow_le_pow_right → Cb, lt_succ_of_lt → Cc, le_add_left → Ck, le_of_ble_eq_true → Cm, lt_or_eq_of_le → Co, succ_add_eq_add_succ → Ct, lt_add_of_pos_right → CA, lt_of_succ_lt_succ → CH, succ_le_succ → CL, ne_of_gt → C1, lt_succ_of_le → C2, succ_pos → C3, le_succ_of_le → C4, pow_succ → Dr, testBit_lt_two_pow → Du, beq → DF, le_succ → DM, min_eq_left → DZ, eq_zero_or_pos → D9, add_right_comm → Ee, lt_trichotomy → Ek, zero_add → Eo, eq_of_beq_eq_true → Ez, min_eq_right → EC, mul_le_mul_right → ER, lt_of_le_of_ne → Fb, succ_le_of_lt → FA, max_eq_right → FO, zero_testBit → FP, le_total → FZ, lt_asymm → F0, max_eq_left → Gk, pow_pos → Gr
open Ne renaming symm → BH
open PUnit renaming unit → Ce
open Prod.mk renaming inj → EM
open PyProof.Rows renaming mirror_perm → EP, seqObj → EW, listUpdate_at → FN, tail_any → FQ, get?_update_seq → Gq, bubble → G0
open PySem renaming wpAny_bind → Aa, wpAny_pure → Ag, sizeLine → Ai, Shared → Al, NameKind → Ax, sizeLine_eq → Ay, Builtin → AA, wpAny_mono → AB, wpAny_holding → AK, wpAny_standAt → AP, typeLookup → AW, mainGlobals → Bk, builtinsNs → Bm, foldedSetIterable → BA, Around → BF, builtinLookup_eq_fast → BM, wpAny_newObj_type → BO, FuncData → BS, isSubtype_type → BU, PyData → B5, sliceBounds → B6, codeAny → Cf, sysModules → Cp, wpAny_execs_cons → Cq, wpAny_bindName → Cy, codeAny_call_builtin → Cz, typeLookup_type → CC, wpAny_Assign_stores → CE, compareOp → CM, seqIndex? → CN, assignEach → CR, getattributeRaised → CS, slot_listiter_next → CT, DictEntry → CY, binaryOp → C5, starEach → C6, keywordEach → C7, bindArgs → Da, standAt → Dd, rawInt → Dj, Program → Dq, codeAny_of_tree → Dy, wpAny_specialOf → Dz, Comprehension → DA, swappedStores → DB, codeAny_call_function → DE, wpAny_truthy_bool → DG, notedBy → DH, holding → DQ, getAttrBy → DR, wpAny_onRaise → DX, baseText → DY, letOwnedTupleGo → D8, wpAny_Call_Name_kw → Ec, sub_AttributeError → Ed, wpAny_field → Eg, isCodeTable → Eh, wpAny_dictEntries → Er, Arguments → EE, codeAmong → EF, wpAny_load → EG, sliceRange → EH, wpAny_call → EJ, wpAny_loadName_local → EN, bindName → EO, wpAny_execs_nil → EU, storeName → E8, isSubtype → E9, wpAny_Name → Ff, backTo → Fg, aRefKeyMayBeTheNameByArray → Fh, backToKw → Fl, constantsAlone → Fm, GenState → Fo, am_entry_list_getattribute → Fp, subscripted → FB, getMethod_builtin → FC, swapsWithSole → FJ, foldedForSure → FL, wpAny_call_entry → FT, entryFor_of_fast → FU, wpAny_isInstance → FW, argsOk → Ga, call_meets → Gc, codeAny_func → Ge, mergeMapping → Gf, theTreesLotGoes → Gn, recursionLimit → Gs, BoolOp → Gu, evalEach → Gv, wpAny_alloc → Gx, newFunctionEnv → Gy, wpAny_nsGet → Gz, entryFor → GA, merged → GB, wpAny_setField → GD, wpAny_of_eq → GF, wpAny_seqItems → GG, unsupported → GH, assignAll → GJ, Keyword → GK, noteFrame → GL, cellOf → GO, pyIter → GP, wpAny_rule → GQ, stored → GR, getItem → GU, relabel → GV, getAttr → GW, setAttr → GX, valueAt → GY, Result → GZ
open PySem.Bind renaming checkArgs → GE
open PySem.Builtin renaming bitAnd → AE, bitOr → DC, bitNot → Es, bitXor → Fq
open PySem.Builtin.Int renaming intBits → E5
open PySem.Builtin.List renaming listFitsIndex → Fs
open PySem.Builtin.Range renaming rangeSize → Dk
open PySem.DictEntry renaming refKey → FS
open PySem.Env renaming blockKind → FI
open PySem.Heap renaming get?_push_size → Ar, get?_push_of_some → Au, SameBut → AQ, get?_update_self → Bc, dictOf_iff → Ci, get?_none_of_le → Cw, get?_update_ne → DS, NewExcOf → FM, lt_size → F8, MadeExcOf → GC, HeldW → GS
open PySem.Heap.SameBut renaming update → Bj
open PySem.Keeper renaming boundFrame → En, machine → Fk, frame → F9
open PySem.Manifest renaming signature? → DV
open PySem.NameKind renaming free → EK
open PySem.Obj renaming mapSeq → AO, data_mapFields → Dx, dropNameByArray → DU, putNameByArray → Eb, isFreed_of_fields → Ew, dropName_eq → EV, putName_eq → Fi, putName → Gw
open PySem.PyData renaming strOk → Bt, depthAll → EY, keyHash → Fu
open PySem.ScopeKind renaming isAnnotationScope → CG
open PySem.SeqAt renaming shaped → Gb
open PySem.Str renaming ofString → BP
open PySem.Txt renaming join → DN
open PySem.W renaming kas_rev → BI, kas_desc → Cg, kas_descPart → Cu, kas_tail3 → CZ, kas_place → DD, tabObj → Em, kas_sort → EQ, CodeHd → Gd
open PySem.W.KasT renaming ret → Dl
open True renaming intro → Bb
open PySem PySem.W PyProof.Rows
set_option maxRecDepth 100000
set_option linter.all false
set_option Elab.async false
set_option compiler.extract_closed false
set_option genSizeOf false
set_option genSizeOfSpec false
namespace Mine
theorem ap0 (_:True:=by intros;with_unfolding_all rfl):True:=trivial
theorem ap1 (_:True:=by decide):True:=trivial
theorem ap2 (_:True:=by with_unfolding_all exact Cm rfl):True:=trivial
theorem ap3 (_:True:=by with_unfolding_all repeat constructor):True:=trivial
theorem ap4 (_:True:=by with_unfolding_all exact np):True:=trivial
theorem qc7 {n a b:Nat}(h : DF a b = false): n+a ≠ n+b := fun e => absurd (Nat.add_left_cancel e) (Nat.ne_of_beq_eq_false h)
theorem orB {a b:Bool}(h : (a || !b) = true): a = true \/ b = false := by cases a with
  | true => exact .inl rfl
  | false => cases b with
    | true => exact nomatch h
    | false => exact .inr rfl
theorem ln0 {α:Type}{l:List α}(h : l.length = 0): l = [] := Dn h
theorem lnS {α:Type}{n:Nat}{l:List α}(h : l.length = n+1): ∃ a r, l = a::r /\ r.length = n :=
  match l, h with
  | a::r, h => ⟨a, r, rfl, Nat.succ.inj h⟩
theorem ln1 {α:Type}{l:List α}(h : l.length = 1): ∃ a, l = [a] := let ⟨a, _, e, q⟩ := lnS h; ⟨a, e.trans (congrArg (a :: ·) (ln0 q))⟩
theorem ln2 {α:Type}{l:List α}(h : l.length = 2): ∃ a b, l = [a, b] := let ⟨a, _, e, q⟩ := lnS h; let ⟨b, f⟩ := ln1 q; ⟨a, b, e.trans (congrArg (a :: ·) f)⟩
theorem ln3 {α:Type}{l:List α}(h : l.length = 3): ∃ a b c, l = [a, b, c] := let ⟨a, _, e, q⟩ := lnS h; let ⟨b, c, f⟩ := ln2 q; ⟨a, b, c, e.trans (congrArg (a :: ·) f)⟩
theorem ln4 {α:Type}{l:List α}(h : l.length = 4): ∃ a b c d, l = [a, b, c, d] := let ⟨a, _, e, q⟩ := lnS h; let ⟨b, c, d, f⟩ := ln3 q; ⟨a, b, c, d, e.trans (congrArg (a :: ·) f)⟩
theorem fa0 {α:Type}{P:α->Prop}: ∀ x ∈ ([] : List α), P x := fun _ h => absurd h CJ
theorem fac {α:Type}{P:α->Prop}{a:α}{l:List α}(h : P a)(t : ∀ x ∈ l, P x): ∀ x ∈ a::l, P x := List.forall_mem_cons.mpr ⟨h, t⟩
theorem qt4 {a f b:Nat}(h : f <= b): f <= min (max a f) b := Nat.le_min.mpr ⟨Nat.le_max_right _ _, h⟩
theorem qt3 {a f b:Nat}: min (max a f) b <= b := Nat.min_le_right _ _
theorem qt1 {a f b j:Nat}(h1 : f <= j)(h2 : j<b): j<min (max a f) b ↔ j<a := by
  rw[Nat.lt_min, and_iff_left h2];rcases FZ a f with h | h
  . rw[FO h]; exact ⟨fun q => absurd q (Be.mpr h1), fun q => Ah q h⟩
  . rw[Gk h]
theorem qt2 {a f b j:Nat}(h1 : f <= j)(h2 : j<b): min (max a f) b <= j ↔ a <= j := Be.symm.trans ((not_congr (qt1 h1 h2)).trans Be)
theorem qvq (a f : Nat): max (a : Int) f = (max a f : Nat) := by
  rcases FZ a f with h | h
  . rw[FO h]; exact Int.max_eq_right (Ei.mpr h)
  . rw[Gk h]; exact Int.max_eq_left (Ei.mpr h)
theorem qvo (a f : Nat): min (a : Int) f = (min a f : Nat) := by
  rcases FZ a f with h | h
  . rw[DZ h]; exact Int.min_eq_left (Ei.mpr h)
  . rw[EC h]; exact Int.min_eq_right (Ei.mpr h)
theorem mmI (a f b : Nat): min (max (a : Int) f) b = ((min (max a f) b : Nat) : Int) := (congrArg (min · (b : Int)) (qvq a f)).trans (qvo _ _)
theorem szl {n m:Nat}(h : n <= m)(hm:autoParam (Nat.ble m PySem.sizeLine = true) ap1._auto_1): n <= PySem.sizeLine := Af h (Cm hm)
theorem qtc {a b a' b':Int}(h : a<b \/ (a = b /\ a'<b')): ¬ (b<a \/ (b = a /\ b'<a')) := fun q => by
  rcases h with h | ⟨h, h'⟩
  . exact q.elim (Int.lt_asymm h) fun q => absurd h (q.1 ▸ DW _)
  . exact q.elim (fun q => absurd q (h ▸ DW _)) fun q => Int.lt_asymm h' q.2
theorem qta {a b c a' b' c':Int}(h : a<b \/ (a = b /\ a'<b'))(k : b<c \/ (b = c /\ b'<c')): a<c \/ (a = c /\ a'<c') := by
  rcases h with h | ⟨rfl, h'⟩
  . exact .inl (k.elim (Ej h) fun q => q.1 ▸ h)
  . exact k.imp_right fun q => ⟨q.1, Ej h' q.2⟩
theorem qtb {a b c a' b' c':Int}(h : a<c \/ (a = c /\ a'<c')): (a<b \/ (a = b /\ a'<b')) \/ (b<c \/ (b = c /\ b'<c')) := by
  rcases Int.lt_trichotomy a b with q | q | q
  . exact .inl (.inl q)
  . subst q;rcases Int.lt_or_le a' b' with w | w
    . exact .inl (.inr ⟨rfl, w⟩)
    . exact .inr (h.imp_right fun z => ⟨z.1, Fa w z.2⟩)
  . exact .inr (.inl (h.elim (Ej q) fun z => z.1 ▸ q))
theorem qv1 {x:Int}{n:Nat}(h : 0<n): ∃ m : Nat, x.fmod n = m /\ m<n := by
  have h' : (0 : Int)<n := Int.natCast_pos.mpr h;obtain ⟨m, hm⟩ := Ef (BX x h');exact ⟨m, hm, CF.mp (hm ▸ Dp x h')⟩
theorem qw2 (o : Nat): (0 : Int)+(o : Nat)*1 = (o : Nat) := by rw[Int.mul_one, Int.zero_add]
theorem qw3 (n : Nat): (1 : Int)+(n : Nat)*1 = ((n+1 : Nat) : Int) := by rw[Int.mul_one, Int.add_comm]; rfl
theorem Sj {α:Type}{a b:α}(h:some a=some b):a=b:=Option.some.inj h
section
variable {G:Prop} {A B C D E F G_ H I:Type}
variable {P0 P1 P2 P3 P4 P5 P6 P7:Prop}
variable {Q0 Q1 Q2 Q3 Q4:A->Prop}
variable {R0 R1 R2 R3 R4 R5:A->B->Prop}
variable {S0 S1 S2 S3 S4 S5 S6 S7 S8:A->B->C->Prop}
variable {T0 T1 T2 T3 T4 T5 T6:A->B->C->D->Prop}
variable {U0 U1 U2 U3 U4 U5 U6 U7 U8:A->B->C->D->E->Prop}
variable {V0 V1:A->B->C->D->E->F->Prop}
variable {W0 W1 W2 W3 W4 W5 W6 W7 W8 W9:A->B->C->D->E->F->G_->Prop}
variable {Y0 Y1 Y2 Y3 Y4:A->B->C->D->E->F->G_->H->I->Prop}
theorem qgj (h:P0/\P1/\P2) (k:P0->P1->P2->G):G:=k h.1 h.2.1 h.2.2
theorem qr4 (h:P0/\P1/\P2/\P3) (k:P0->P1->P2->P3->G):G:=k h.1 h.2.1 h.2.2.1 h.2.2.2
theorem qn7 (h:P0/\P1/\P2/\P3/\P4/\P5/\P6/\P7) (k:P0->P1->P2->P3->P4->P5->P6->P7->G):G:=k h.1 h.2.1 h.2.2.1 h.2.2.2.1 h.2.2.2.2.1 h.2.2.2.2.2.1 h.2.2.2.2.2.2.1 h.2.2.2.2.2.2.2
theorem qhd (h:P0/\P1/\P2/\∃a b c d e,U0 a b c d e/\U1 a b c d e/\U2 a b c d e/\U3 a b c d e) (k:P0->P1->P2->∀a b c d e,U0 a b c d e->U1 a b c d e->U2 a b c d e->U3 a b c d e->G):G:=h.2.2.2.elim fun a h0=>h0.elim fun b h1=>h1.elim fun c h2=>h2.elim fun d h3=>h3.elim fun e h4=>k h.1 h.2.1 h.2.2.1 a b c d e h4.1 h4.2.1 h4.2.2.1 h4.2.2.2
theorem qgi (h:P0/\P1/\P2/\∃a b c d e,U0 a b c d e/\U1 a b c d e/\U2 a b c d e/\U3 a b c d e/\U4 a b c d e) (k:P0->P1->P2->∀a b c d e,U0 a b c d e->U1 a b c d e->U2 a b c d e->U3 a b c d e->U4 a b c d e->G):G:=h.2.2.2.elim fun a h0=>h0.elim fun b h1=>h1.elim fun c h2=>h2.elim fun d h3=>h3.elim fun e h4=>k h.1 h.2.1 h.2.2.1 a b c d e h4.1 h4.2.1 h4.2.2.1 h4.2.2.2.1 h4.2.2.2.2
theorem qe9 (h:P0/\P1/\P2/\∃a b c d e,U0 a b c d e/\U1 a b c d e/\U2 a b c d e/\U3 a b c d e/\U4 a b c d e/\U5 a b c d e/\U6 a b c d e/\U7 a b c d e/\U8 a b c d e) (k:P0->P1->P2->∀a b c d e,U0 a b c d e->U1 a b c d e->U2 a b c d e->U3 a b c d e->U4 a b c d e->U5 a b c d e->U6 a b c d e->U7 a b c d e->U8 a b c d e->G):G:=h.2.2.2.elim fun a h0=>h0.elim fun b h1=>h1.elim fun c h2=>h2.elim fun d h3=>h3.elim fun e h4=>k h.1 h.2.1 h.2.2.1 a b c d e h4.1 h4.2.1 h4.2.2.1 h4.2.2.2.1 h4.2.2.2.2.1 h4.2.2.2.2.2.1 h4.2.2.2.2.2.2.1 h4.2.2.2.2.2.2.2.1 h4.2.2.2.2.2.2.2.2
theorem qsx (h:P0/\∃a,Q0 a/\Q1 a) (k:P0->∀a,Q0 a->Q1 a->G):G:=h.2.elim fun a h0=>k h.1 a h0.1 h0.2
theorem qut (h:P0/\∃a b,R0 a b) (k:P0->∀a b,R0 a b->G):G:=h.2.elim fun a h0=>h0.elim fun b h1=>k h.1 a b h1
theorem qp8 (h:P0/\∃a b,R0 a b/\R1 a b/\R2 a b/\R3 a b) (k:P0->∀a b,R0 a b->R1 a b->R2 a b->R3 a b->G):G:=h.2.elim fun a h0=>h0.elim fun b h1=>k h.1 a b h1.1 h1.2.1 h1.2.2.1 h1.2.2.2
theorem qa5 (h:∃a,Q0 a/\Q1 a) (k:∀a,Q0 a->Q1 a->G):G:=h.elim fun a h0=>k a h0.1 h0.2
theorem qaj (h:∃a,Q0 a/\Q1 a/\Q2 a) (k:∀a,Q0 a->Q1 a->Q2 a->G):G:=h.elim fun a h0=>k a h0.1 h0.2.1 h0.2.2
theorem qbx (h:∃a,Q0 a/\Q1 a/\Q2 a/\Q3 a) (k:∀a,Q0 a->Q1 a->Q2 a->Q3 a->G):G:=h.elim fun a h0=>k a h0.1 h0.2.1 h0.2.2.1 h0.2.2.2
theorem qet (h:∃a,Q0 a/\Q1 a/\Q2 a/\Q3 a/\Q4 a) (k:∀a,Q0 a->Q1 a->Q2 a->Q3 a->Q4 a->G):G:=h.elim fun a h0=>k a h0.1 h0.2.1 h0.2.2.1 h0.2.2.2.1 h0.2.2.2.2
theorem qus (h:∃a,Q0 a/\∃b,R0 a b) (k:∀a,Q0 a->∀b,R0 a b->G):G:=h.elim fun a h0=>h0.2.elim fun b h1=>k a h0.1 b h1
theorem qde (h:∃a,Q0 a/\∃b,R0 a b/\R1 a b/\R2 a b) (k:∀a,Q0 a->∀b,R0 a b->R1 a b->R2 a b->G):G:=h.elim fun a h0=>h0.2.elim fun b h1=>k a h0.1 b h1.1 h1.2.1 h1.2.2
theorem qjl (h:∃a,Q0 a/\∃b c,S0 a b c/\S1 a b c) (k:∀a,Q0 a->∀b c,S0 a b c->S1 a b c->G):G:=h.elim fun a h0=>h0.2.elim fun b h1=>h1.elim fun c h2=>k a h0.1 b c h2.1 h2.2
theorem qln (h:∃a,Q0 a/\∃b c d,T0 a b c d/\T1 a b c d/\T2 a b c d/\T3 a b c d) (k:∀a,Q0 a->∀b c d,T0 a b c d->T1 a b c d->T2 a b c d->T3 a b c d->G):G:=h.elim fun a h0=>h0.2.elim fun b h1=>h1.elim fun c h2=>h2.elim fun d h3=>k a h0.1 b c d h3.1 h3.2.1 h3.2.2.1 h3.2.2.2
theorem qjk (h:∃a,Q0 a/\∃b c d e,U0 a b c d e/\U1 a b c d e/\U2 a b c d e/\U3 a b c d e) (k:∀a,Q0 a->∀b c d e,U0 a b c d e->U1 a b c d e->U2 a b c d e->U3 a b c d e->G):G:=h.elim fun a h0=>h0.2.elim fun b h1=>h1.elim fun c h2=>h2.elim fun d h3=>h3.elim fun e h4=>k a h0.1 b c d e h4.1 h4.2.1 h4.2.2.1 h4.2.2.2
theorem qhc (h:∃a,Q0 a/\∃b c d e,U0 a b c d e/\U1 a b c d e/\U2 a b c d e/\U3 a b c d e/\U4 a b c d e/\U5 a b c d e) (k:∀a,Q0 a->∀b c d e,U0 a b c d e->U1 a b c d e->U2 a b c d e->U3 a b c d e->U4 a b c d e->U5 a b c d e->G):G:=h.elim fun a h0=>h0.2.elim fun b h1=>h1.elim fun c h2=>h2.elim fun d h3=>h3.elim fun e h4=>k a h0.1 b c d e h4.1 h4.2.1 h4.2.2.1 h4.2.2.2.1 h4.2.2.2.2.1 h4.2.2.2.2.2
theorem qjj (h:∃a b,R0 a b) (k:∀a b,R0 a b->G):G:=h.elim fun a h0=>h0.elim fun b h1=>k a b h1
theorem qcr (h:∃a b,R0 a b/\R1 a b) (k:∀a b,R0 a b->R1 a b->G):G:=h.elim fun a h0=>h0.elim fun b h1=>k a b h1.1 h1.2
theorem qa1 (h:∃a b,R0 a b/\R1 a b/\R2 a b) (k:∀a b,R0 a b->R1 a b->R2 a b->G):G:=h.elim fun a h0=>h0.elim fun b h1=>k a b h1.1 h1.2.1 h1.2.2
theorem qb3 (h:∃a b,R0 a b/\R1 a b/\R2 a b/\R3 a b) (k:∀a b,R0 a b->R1 a b->R2 a b->R3 a b->G):G:=h.elim fun a h0=>h0.elim fun b h1=>k a b h1.1 h1.2.1 h1.2.2.1 h1.2.2.2
theorem qap (h:∃a b,R0 a b/\R1 a b/\R2 a b/\R3 a b/\R4 a b) (k:∀a b,R0 a b->R1 a b->R2 a b->R3 a b->R4 a b->G):G:=h.elim fun a h0=>h0.elim fun b h1=>k a b h1.1 h1.2.1 h1.2.2.1 h1.2.2.2.1 h1.2.2.2.2
theorem qdd (h:∃a b,R0 a b/\R1 a b/\R2 a b/\R3 a b/\R4 a b/\R5 a b) (k:∀a b,R0 a b->R1 a b->R2 a b->R3 a b->R4 a b->R5 a b->G):G:=h.elim fun a h0=>h0.elim fun b h1=>k a b h1.1 h1.2.1 h1.2.2.1 h1.2.2.2.1 h1.2.2.2.2.1 h1.2.2.2.2.2
theorem qn6 (h:∃a b,R0 a b/\R1 a b/\R2 a b/\∃c,S0 a b c/\S1 a b c) (k:∀a b,R0 a b->R1 a b->R2 a b->∀c,S0 a b c->S1 a b c->G):G:=h.elim fun a h0=>h0.elim fun b h1=>h1.2.2.2.elim fun c h2=>k a b h1.1 h1.2.1 h1.2.2.1 c h2.1 h2.2
theorem qn5 (h:∃a b c,S0 a b c) (k:∀a b c,S0 a b c->G):G:=h.elim fun a h0=>h0.elim fun b h1=>h1.elim fun c h2=>k a b c h2
theorem qbw (h:∃a b c,S0 a b c/\S1 a b c) (k:∀a b c,S0 a b c->S1 a b c->G):G:=h.elim fun a h0=>h0.elim fun b h1=>h1.elim fun c h2=>k a b c h2.1 h2.2
theorem qar (h:∃a b c,S0 a b c/\S1 a b c/\S2 a b c) (k:∀a b c,S0 a b c->S1 a b c->S2 a b c->G):G:=h.elim fun a h0=>h0.elim fun b h1=>h1.elim fun c h2=>k a b c h2.1 h2.2.1 h2.2.2
theorem qa2 (h:∃a b c,S0 a b c/\S1 a b c/\S2 a b c/\S3 a b c) (k:∀a b c,S0 a b c->S1 a b c->S2 a b c->S3 a b c->G):G:=h.elim fun a h0=>h0.elim fun b h1=>h1.elim fun c h2=>k a b c h2.1 h2.2.1 h2.2.2.1 h2.2.2.2
theorem qe8 (h:∃a b c,S0 a b c/\S1 a b c/\S2 a b c/\S3 a b c/\S4 a b c) (k:∀a b c,S0 a b c->S1 a b c->S2 a b c->S3 a b c->S4 a b c->G):G:=h.elim fun a h0=>h0.elim fun b h1=>h1.elim fun c h2=>k a b c h2.1 h2.2.1 h2.2.2.1 h2.2.2.2.1 h2.2.2.2.2
theorem qb5 (h:∃a b c,S0 a b c/\S1 a b c/\S2 a b c/\S3 a b c/\S4 a b c/\S5 a b c) (k:∀a b c,S0 a b c->S1 a b c->S2 a b c->S3 a b c->S4 a b c->S5 a b c->G):G:=h.elim fun a h0=>h0.elim fun b h1=>h1.elim fun c h2=>k a b c h2.1 h2.2.1 h2.2.2.1 h2.2.2.2.1 h2.2.2.2.2.1 h2.2.2.2.2.2
theorem qbm (h:∃a b c,S0 a b c/\S1 a b c/\S2 a b c/\S3 a b c/\S4 a b c/\S5 a b c/\S6 a b c/\S7 a b c/\S8 a b c) (k:∀a b c,S0 a b c->S1 a b c->S2 a b c->S3 a b c->S4 a b c->S5 a b c->S6 a b c->S7 a b c->S8 a b c->G):G:=h.elim fun a h0=>h0.elim fun b h1=>h1.elim fun c h2=>k a b c h2.1 h2.2.1 h2.2.2.1 h2.2.2.2.1 h2.2.2.2.2.1 h2.2.2.2.2.2.1 h2.2.2.2.2.2.2.1 h2.2.2.2.2.2.2.2.1 h2.2.2.2.2.2.2.2.2
theorem qbu (h:∃a b c,S0 a b c/\S1 a b c/\S2 a b c/\S3 a b c/\S4 a b c/\S5 a b c/\S6 a b c/\∃d e,U0 a b c d e/\U1 a b c d e/\U2 a b c d e/\U3 a b c d e) (k:∀a b c,S0 a b c->S1 a b c->S2 a b c->S3 a b c->S4 a b c->S5 a b c->S6 a b c->∀d e,U0 a b c d e->U1 a b c d e->U2 a b c d e->U3 a b c d e->G):G:=h.elim fun a h0=>h0.elim fun b h1=>h1.elim fun c h2=>h2.2.2.2.2.2.2.2.elim fun d h3=>h3.elim fun e h4=>k a b c h2.1 h2.2.1 h2.2.2.1 h2.2.2.2.1 h2.2.2.2.2.1 h2.2.2.2.2.2.1 h2.2.2.2.2.2.2.1 d e h4.1 h4.2.1 h4.2.2.1 h4.2.2.2
theorem qdo (h:∃a b c d,T0 a b c d/\T1 a b c d/\T2 a b c d) (k:∀a b c d,T0 a b c d->T1 a b c d->T2 a b c d->G):G:=h.elim fun a h0=>h0.elim fun b h1=>h1.elim fun c h2=>h2.elim fun d h3=>k a b c d h3.1 h3.2.1 h3.2.2
theorem qcq (h:∃a b c d,T0 a b c d/\T1 a b c d/\T2 a b c d/\T3 a b c d) (k:∀a b c d,T0 a b c d->T1 a b c d->T2 a b c d->T3 a b c d->G):G:=h.elim fun a h0=>h0.elim fun b h1=>h1.elim fun c h2=>h2.elim fun d h3=>k a b c d h3.1 h3.2.1 h3.2.2.1 h3.2.2.2
theorem qah (h:∃a b c d,T0 a b c d/\T1 a b c d/\T2 a b c d/\T3 a b c d/\T4 a b c d) (k:∀a b c d,T0 a b c d->T1 a b c d->T2 a b c d->T3 a b c d->T4 a b c d->G):G:=h.elim fun a h0=>h0.elim fun b h1=>h1.elim fun c h2=>h2.elim fun d h3=>k a b c d h3.1 h3.2.1 h3.2.2.1 h3.2.2.2.1 h3.2.2.2.2
theorem qat (h:∃a b c d,T0 a b c d/\T1 a b c d/\T2 a b c d/\T3 a b c d/\T4 a b c d/\T5 a b c d) (k:∀a b c d,T0 a b c d->T1 a b c d->T2 a b c d->T3 a b c d->T4 a b c d->T5 a b c d->G):G:=h.elim fun a h0=>h0.elim fun b h1=>h1.elim fun c h2=>h2.elim fun d h3=>k a b c d h3.1 h3.2.1 h3.2.2.1 h3.2.2.2.1 h3.2.2.2.2.1 h3.2.2.2.2.2
theorem qid (h:∃a b c d,T0 a b c d/\T1 a b c d/\T2 a b c d/\T3 a b c d/\T4 a b c d/\T5 a b c d/\T6 a b c d) (k:∀a b c d,T0 a b c d->T1 a b c d->T2 a b c d->T3 a b c d->T4 a b c d->T5 a b c d->T6 a b c d->G):G:=h.elim fun a h0=>h0.elim fun b h1=>h1.elim fun c h2=>h2.elim fun d h3=>k a b c d h3.1 h3.2.1 h3.2.2.1 h3.2.2.2.1 h3.2.2.2.2.1 h3.2.2.2.2.2.1 h3.2.2.2.2.2.2
theorem qg0 (h:∃a b c d e,U0 a b c d e/\U1 a b c d e/\U2 a b c d e) (k:∀a b c d e,U0 a b c d e->U1 a b c d e->U2 a b c d e->G):G:=h.elim fun a h0=>h0.elim fun b h1=>h1.elim fun c h2=>h2.elim fun d h3=>h3.elim fun e h4=>k a b c d e h4.1 h4.2.1 h4.2.2
theorem qgq (h:∃a b c d e,U0 a b c d e/\U1 a b c d e/\U2 a b c d e/\U3 a b c d e) (k:∀a b c d e,U0 a b c d e->U1 a b c d e->U2 a b c d e->U3 a b c d e->G):G:=h.elim fun a h0=>h0.elim fun b h1=>h1.elim fun c h2=>h2.elim fun d h3=>h3.elim fun e h4=>k a b c d e h4.1 h4.2.1 h4.2.2.1 h4.2.2.2
theorem qic (h:∃a b c d e,U0 a b c d e/\U1 a b c d e/\U2 a b c d e/\U3 a b c d e/\U4 a b c d e/\U5 a b c d e) (k:∀a b c d e,U0 a b c d e->U1 a b c d e->U2 a b c d e->U3 a b c d e->U4 a b c d e->U5 a b c d e->G):G:=h.elim fun a h0=>h0.elim fun b h1=>h1.elim fun c h2=>h2.elim fun d h3=>h3.elim fun e h4=>k a b c d e h4.1 h4.2.1 h4.2.2.1 h4.2.2.2.1 h4.2.2.2.2.1 h4.2.2.2.2.2
theorem qe7 (h:∃a b c d e,U0 a b c d e/\U1 a b c d e/\U2 a b c d e/\U3 a b c d e/\U4 a b c d e/\U5 a b c d e/\U6 a b c d e) (k:∀a b c d e,U0 a b c d e->U1 a b c d e->U2 a b c d e->U3 a b c d e->U4 a b c d e->U5 a b c d e->U6 a b c d e->G):G:=h.elim fun a h0=>h0.elim fun b h1=>h1.elim fun c h2=>h2.elim fun d h3=>h3.elim fun e h4=>k a b c d e h4.1 h4.2.1 h4.2.2.1 h4.2.2.2.1 h4.2.2.2.2.1 h4.2.2.2.2.2.1 h4.2.2.2.2.2.2
theorem qbb (h:∃a b c d e,U0 a b c d e/\U1 a b c d e/\U2 a b c d e/\U3 a b c d e/\U4 a b c d e/\U5 a b c d e/\U6 a b c d e/\U7 a b c d e) (k:∀a b c d e,U0 a b c d e->U1 a b c d e->U2 a b c d e->U3 a b c d e->U4 a b c d e->U5 a b c d e->U6 a b c d e->U7 a b c d e->G):G:=h.elim fun a h0=>h0.elim fun b h1=>h1.elim fun c h2=>h2.elim fun d h3=>h3.elim fun e h4=>k a b c d e h4.1 h4.2.1 h4.2.2.1 h4.2.2.2.1 h4.2.2.2.2.1 h4.2.2.2.2.2.1 h4.2.2.2.2.2.2.1 h4.2.2.2.2.2.2.2
theorem qfz (h:∃a b c d e,U0 a b c d e/\U1 a b c d e/\U2 a b c d e/\U3 a b c d e/\U4 a b c d e/\U5 a b c d e/\U6 a b c d e/\U7 a b c d e/\U8 a b c d e) (k:∀a b c d e,U0 a b c d e->U1 a b c d e->U2 a b c d e->U3 a b c d e->U4 a b c d e->U5 a b c d e->U6 a b c d e->U7 a b c d e->U8 a b c d e->G):G:=h.elim fun a h0=>h0.elim fun b h1=>h1.elim fun c h2=>h2.elim fun d h3=>h3.elim fun e h4=>k a b c d e h4.1 h4.2.1 h4.2.2.1 h4.2.2.2.1 h4.2.2.2.2.1 h4.2.2.2.2.2.1 h4.2.2.2.2.2.2.1 h4.2.2.2.2.2.2.2.1 h4.2.2.2.2.2.2.2.2
theorem qfb (h:∃a b c d e,U0 a b c d e/\U1 a b c d e/\U2 a b c d e/\U3 a b c d e/\U4 a b c d e/\∃f g,W0 a b c d e f g/\W1 a b c d e f g/\W2 a b c d e f g) (k:∀a b c d e,U0 a b c d e->U1 a b c d e->U2 a b c d e->U3 a b c d e->U4 a b c d e->∀f g,W0 a b c d e f g->W1 a b c d e f g->W2 a b c d e f g->G):G:=h.elim fun a h0=>h0.elim fun b h1=>h1.elim fun c h2=>h2.elim fun d h3=>h3.elim fun e h4=>h4.2.2.2.2.2.elim fun f h5=>h5.elim fun g h6=>k a b c d e h4.1 h4.2.1 h4.2.2.1 h4.2.2.2.1 h4.2.2.2.2.1 f g h6.1 h6.2.1 h6.2.2
theorem qn4 (h:∃a b c d e f,V0 a b c d e f/\V1 a b c d e f) (k:∀a b c d e f,V0 a b c d e f->V1 a b c d e f->G):G:=h.elim fun a h0=>h0.elim fun b h1=>h1.elim fun c h2=>h2.elim fun d h3=>h3.elim fun e h4=>h4.elim fun f h5=>k a b c d e f h5.1 h5.2
theorem qfy (h:∃a b c d e f g,W0 a b c d e f g/\W1 a b c d e f g/\W2 a b c d e f g/\W3 a b c d e f g/\W4 a b c d e f g/\W5 a b c d e f g/\W6 a b c d e f g) (k:∀a b c d e f g,W0 a b c d e f g->W1 a b c d e f g->W2 a b c d e f g->W3 a b c d e f g->W4 a b c d e f g->W5 a b c d e f g->W6 a b c d e f g->G):G:=h.elim fun a h0=>h0.elim fun b h1=>h1.elim fun c h2=>h2.elim fun d h3=>h3.elim fun e h4=>h4.elim fun f h5=>h5.elim fun g h6=>k a b c d e f g h6.1 h6.2.1 h6.2.2.1 h6.2.2.2.1 h6.2.2.2.2.1 h6.2.2.2.2.2.1 h6.2.2.2.2.2.2
theorem qb1 (h:∃a b c d e f g,W0 a b c d e f g/\W1 a b c d e f g/\W2 a b c d e f g/\W3 a b c d e f g/\W4 a b c d e f g/\W5 a b c d e f g/\W6 a b c d e f g/\W7 a b c d e f g/\W8 a b c d e f g/\W9 a b c d e f g) (k:∀a b c d e f g,W0 a b c d e f g->W1 a b c d e f g->W2 a b c d e f g->W3 a b c d e f g->W4 a b c d e f g->W5 a b c d e f g->W6 a b c d e f g->W7 a b c d e f g->W8 a b c d e f g->W9 a b c d e f g->G):G:=h.elim fun a h0=>h0.elim fun b h1=>h1.elim fun c h2=>h2.elim fun d h3=>h3.elim fun e h4=>h4.elim fun f h5=>h5.elim fun g h6=>k a b c d e f g h6.1 h6.2.1 h6.2.2.1 h6.2.2.2.1 h6.2.2.2.2.1 h6.2.2.2.2.2.1 h6.2.2.2.2.2.2.1 h6.2.2.2.2.2.2.2.1 h6.2.2.2.2.2.2.2.2.1 h6.2.2.2.2.2.2.2.2.2
theorem qfx (h:∃a b c d e f g h i,Y0 a b c d e f g h i/\Y1 a b c d e f g h i/\Y2 a b c d e f g h i/\Y3 a b c d e f g h i/\Y4 a b c d e f g h i) (k:∀a b c d e f g h i,Y0 a b c d e f g h i->Y1 a b c d e f g h i->Y2 a b c d e f g h i->Y3 a b c d e f g h i->Y4 a b c d e f g h i->G):G:=h.elim fun a h0=>h0.elim fun b h1=>h1.elim fun c h2=>h2.elim fun d h3=>h3.elim fun e h4=>h4.elim fun f h5=>h5.elim fun g h6=>h6.elim fun h h7=>h7.elim fun i h8=>k a b c d e f g h i h8.1 h8.2.1 h8.2.2.1 h8.2.2.2.1 h8.2.2.2.2
end
variable {n:Nat} {a:Addr} {b:Nat} {α:Type} {j:Nat} {c:Addr} {x:Str} {N:Nat} {p:Pos} {q:Nat} {M:Model} {K:Nat} {e:Expr} {i:Nat} {k:Nat} {r:Nat} {ed:Nat->Nat} {ep:Nat->Nat} {L:List Nat} {A:BF} {o:Obj} {Y:Nat->Prop} {h:Heap} {h':Heap} {fr:List Env} {s:Al} {env:Env} {E:Value->Al->Prop} {kd:Ax} {Q:Value->Al->Prop} {es:List Expr} {t:Expr} {va:Value} {st:Stmt} {nm:List (Str×Ax)} {xs:List Str} {scope:Scope} {body:List Stmt} {kn:List Str} {ws:List Addr} {it:Value} {prog:Dq} {w:World} {la:Addr} {tk:Nat} {R:GZ->Al->Prop} {orelse:List Stmt} {iter:Expr} {elt:Expr} {gens:List DA} {pos:Pos} {d:Nat} {ifs:List Expr} {names:List (Str×Ax)} {px:Pos} {test:Expr} {py:Pos} {n':Nat} {e1:Expr} {os:OsState} {ns:List Str} {attrs:List Str} {ks:List Str} {P:Addr} {sts:List Stmt} {hi:Nat} {cd:Value} {S:Type} {Yk:Nat->Prop} {lo0:Nat} {hi0:Nat} {κ:Nat->Int} {kx:Int} {ps:List Nat} {pn:Nat} {kk:Nat}
section
structure Tre (N:Nat) (an:Nat->Nat->Bool) (en:Nat->Nat):Prop where
  lt:∀p q,an p q=true->p<q
  mid:∀p q r,an p q=true->p<r->r<=q->an p r=true
  tr:∀p q r,an p q=true->an q r=true->an p r=true
  ens:∀p q,p<q->q<N->(an p q=true↔q<=en p)
  ge:∀p,p<=en p
  top:∀p,p<N->en p<N
section
variable {an:Nat->Nat->Bool} {en:Nat->Nat} (Tt:Tre N an en)
include Tt
theorem Tre.no {p:Nat}(h:p<q)(hq:q<N)(he:en p<q):an p q=false:=by
  cases hb:an p q with
  | false=>rfl
  | true=>exact absurd ((Tt.ens p q h hq).mp hb) (Bn.mpr he)
theorem Tre.nest {p:Nat}(h:p<q)(he:q<=en p)(hq:q<N):en q<=en p:=by
  rcases AT q (en q) with h1 | h1
  . have h2:=(Tt.ens q (en q) h1 (Tt.top q hq)).mpr (Ak _);have h3:=(Tt.ens p q h hq).mpr he;exact (Tt.ens p (en q) (Bq h h1) (Tt.top q hq)).mp (Tt.tr _ _ _ h3 h2)
  . exact Af h1 he
theorem Tre.out {p x y:Nat}(hx:p<=x)(hxe:x<=en p)(hy:en p<y)(hyN:y<N):an x y=false:=by
  cases hb:an x y with
  | false=>rfl
  | true=>
    have hxy:=Tt.lt _ _ hb;rcases AF hx with rfl | h
    . exact absurd ((Tt.ens _ _ hxy hyN).mp hb) (Bn.mpr hy)
    . have h1:=(Tt.ens p x h (Bq hxy hyN)).mpr hxe;exact absurd ((Tt.ens p y (Bq h hxy) hyN).mp (Tt.tr _ _ _ h1 hb)) (Bn.mpr hy)
end
section
variable {M:Nat} (ap ad:Nat->Nat->Bool) (ep ed:Nat->Nat) (tp td:Nat->Bool)
def FE (N:Nat) (i K:Nat) (s:Nat->Nat):Prop:=(∀x,i<=x->x<=K->s x<N/\td (s x)=tp x)/\∀x y,i<=x->x<y->y<=K->s x<s y/\ad (s x) (s y)=ap x y
def Hit (N:Nat) (k r:Nat):Prop:=∃s:Nat->Nat,s k=r/\FE ap ad tp td N k (ep k) s
inductive Ch (H:Nat->Nat->Prop) (K e:Nat):Nat->Nat->Prop
  | nil {i a:Nat}:K<i->Ch H K e i a
  | cons {i a r:Nat}:i<=K->H i r->a<r->r<=e->Ch H K e (ep i+1) (ed r)->Ch H K e i a
variable {ap ad ep ed tp td} (Pt:Tre M ap ep) (Dt:Tre N ad ed)
theorem Ch.up {H:Nat->Nat->Prop}{e a:Nat}(h:Ch ep ed H K e i a)(hb:b<=a):Ch ep ed H K e i b:=by
  cases h with
  | nil q=>exact .nil q
  | cons q1 q2 q3 q4 q5=>exact .cons q1 q2 (An hb q3) q4 q5
include Pt Dt
theorem Ch.lay {e a:Nat}(h:Ch ep ed (Hit ap ad ep tp td N) K e i a)(hK:K<M)(he:∀x,a<x->x<=e->ed x<=e)(heN:e<N)(hKn:∀x,i<=x->x<=K->ep x<=K):
    ∃s,FE ap ad tp td N i K s/\∀x,i<=x->x<=K->a<s x/\s x<=e:=by
  induction h with
  | nil q=>exact ⟨id,⟨fun x h1 h2=>absurd (Ah q h1) (Be.mpr h2),fun x y h1 h2 h3=>absurd (Ah q h1) (Be.mpr (Af (Av h2) h3))⟩,fun x h1 h2=>absurd (Ah q h1) (Be.mpr h2)⟩
  | @cons i a r q1 q2 q3 q4 q5 ih=>
    obtain ⟨s1,hs1,f1,f2⟩:=q2;have hr:=he r q3 q4;obtain ⟨s2,⟨g1,g2⟩,g3⟩:=ih (fun x h1 h2=>he x (Ah q3 (Af (Dt.ge r) (Av h1))) h2) (fun x h1 h2=>hKn x (Af (Pt.ge i) (Av h1)) h2);have hepi:=hKn i (Ak _) q1;have b1:∀x,i<=x->x<=ep i->r<=s1 x/\s1 x<=ed r:=by
      intro x h1 h2;rcases AF h1 with rfl | h
      . rw[hs1];exact ⟨Ak _,Dt.ge r⟩
      . obtain ⟨h3,h4⟩:=f2 i x (Ak _) h h2;rw[hs1] at h3 h4;refine ⟨Av h3,(Dt.ens _ _ h3 (f1 x h1 h2).1).mp (h4.trans ?_)⟩;exact (Pt.ens i x h (An (Af h2 hepi) hK)).mpr h2
    refine ⟨fun x=>if x<=ep i then s1 x else s2 x,⟨?_,?_⟩,?_⟩
    . intro x h1 h2;by_cases hx:x<=ep i
      . simp only[if_pos hx];exact f1 x h1 hx
      . simp only[if_neg hx];exact g1 x (Bn.mp hx) h2
    . intro x y h1 h2 h3;by_cases hx:x<=ep i
      . by_cases hy:y<=ep i
        . simp only[if_pos hx,if_pos hy];exact f2 x y h1 h2 hy
        . simp only[if_pos hx,if_neg hy];have hy':=Bn.mp hy;have c1:=b1 x h1 hx;have c2:=g3 y hy' h3;refine ⟨An c1.2 c2.1,?_⟩;rw[Dt.out c1.1 c1.2 c2.1 (g1 y hy' h3).1,Pt.out h1 hx hy' (An h3 hK)]
      . have hx':=Bn.mp hx;have hy:¬y<=ep i:=fun q=>hx (Af (Av h2) q)
        simp only[if_neg hx,if_neg hy];exact g2 x y hx' h2 h3
    . intro x h1 h2;by_cases hx:x<=ep i
      . simp only[if_pos hx];have c1:=b1 x h1 hx;exact ⟨Ah q3 c1.1,Af c1.2 hr⟩
      . simp only[if_neg hx];have c2:=g3 x (Bn.mp hx) h2;exact ⟨Ah q3 (Af (Dt.ge r) (Av c2.1)),c2.2⟩
theorem Hit.of (hk:k<M)(hr:r<N)(ht:td r=tp k)(h:Ch ep ed (Hit ap ad ep tp td N) (ep k) (ed r) (k+1) r):Hit ap ad ep tp td N k r:=by
  obtain ⟨s,⟨f1,f2⟩,f3⟩:=h.lay Pt Dt (Pt.top k hk) (fun x h1 h2=>Dt.nest h1 h2 (An h2 (Dt.top r hr))) (Dt.top r hr) (fun x h1 h2=>Pt.nest h1 h2 (An h2 (Pt.top k hk)));refine ⟨fun x=>if x=k then r else s x,by simp,?_,?_⟩
  . intro x h1 h2;by_cases hx:x=k
    . simp only[if_pos hx];exact ⟨hr,hx ▸ ht⟩
    . simp only[if_neg hx];exact f1 x (Fb h1 (BH hx)) h2
  . intro x y h1 h2 h3;have hy:y≠k:=C1 (An h1 h2);simp only[if_neg hy];by_cases hx:x=k
    . subst hx;have c:=f3 y h2 h3;simp only[if_true];refine ⟨c.1,?_⟩;rw[(Dt.ens _ _ c.1 (f1 y h2 h3).1).mpr c.2,(Pt.ens _ _ h2 (An h3 (Pt.top _ hk))).mpr h3]
    . simp only[if_neg hx];exact f2 x y (Fb h1 (BH hx)) h2 h3
theorem Ch.of {e:Nat}{s:Nat->Nat}(hk:k<M)(hK:K=ep k)(hs:FE ap ad tp td N k K s)(he:e=ed (s k)):∀(n i a:Nat),K<i+n->k<i->(∀x,i<=x->x<=K->a<s x)->Ch ep ed (Hit ap ad ep tp td N) K e i a:=by
  intro n;induction n with
  | zero=>intro i a h _ _;exact .nil h
  | succ n ih=>
    intro i a h hki ha;rcases AT K i with q | q
    . exact .nil q
    have hKM:K<M:=hK ▸ Pt.top k hk;have hi:ep i<=K:=hK ▸ Pt.nest hki (hK ▸ q) (An q hKM);obtain ⟨f1,f2⟩:=hs;refine .cons (r:=s i) q ⟨s,rfl,fun x h1 h2=>f1 x (Av (Ah hki h1)) (Af h2 hi),fun x y h1 h2 h3=>f2 x y (Av (Ah hki h1)) h2 (Af h3 hi)⟩ (ha i (Ak _) q) ?_ ?_
    . obtain ⟨c1,c2⟩:=f2 k i (Ak _) hki q;rw[he];exact (Dt.ens _ _ c1 (f1 i (Av hki) q).1).mp (c2.trans ((Pt.ens _ _ hki (An q hKM)).mpr (hK ▸ q)))
    . refine ih (ep i+1) (ed (s i)) (by have:=Pt.ge i;lia) (C2 (Af (Av hki) (Pt.ge i))) ?_;intro x h1 h2;have hix:i<x:=An (Pt.ge i) h1;obtain ⟨c1,c2⟩:=f2 i x (Av hki) hix h2;have c3:=Pt.no hix (An h2 hKM) h1;refine Bn.mp fun c4=>?_
      have c5:=(Dt.ens _ _ c1 (f1 x (Av (Bq hki hix)) h2).1).mpr c4;rw[c2,c3] at c5;cases c5
theorem Ie9 (hk:k<M)(hr:r<N):Hit ap ad ep tp td N k r↔td r=tp k/\Ch ep ed (Hit ap ad ep tp td N) (ep k) (ed r) (k+1) r:=by
  refine ⟨?_,fun h=>Hit.of Pt Dt hk hr h.1 h.2⟩
  rintro ⟨s,rfl,f1,f2⟩
  exact ⟨(f1 k (Ak _) (Pt.ge k)).2,Ch.of Pt Dt hk rfl ⟨f1,f2⟩ rfl (ep k) (k+1) (s k) (by simp) (Bp _) fun x h1 h2=>(f2 k x (Ak _) h1 h2).1⟩
end
end
section
noncomputable def qcl (Dt:List Nat) (a:Nat):Nat:=(Dt.filter fun x=>decide (x<=a)).length
theorem qhu (Dt:List Nat)(a:Nat):qcl Dt a<=Dt.length:=Bu _ _
theorem qdi:∀{Dt:List Nat} {a:Nat},Dt.Pairwise (· < ·)->∀j x,Dt[j]?=some x->(x<=a↔j<qcl Dt a)
  | [],_,_,j,x,h=>by simp at h
  | d::Dt,a,hp,j,x,h=>by
    rw[A6] at hp;rcases AT a d with hd | hd
    . have h0:qcl (d::Dt) a=0:=by
        rw[qcl,BD.mpr]
        . rfl
        . intro y hy;rcases AS.mp hy with rfl | hy
          . simp;exact hd
          . have:=hp.1 y hy;simp;lia
      rw[h0];have hx:a<x:=by
        rcases AS.mp (Aw h) with rfl | hy
        . exact hd
        . exact Bq hd (hp.1 x hy)
      exact ⟨fun q=>absurd q (Bn.mpr hx),fun q=>absurd q (B8 _)⟩
    . have h0:qcl (d::Dt) a=qcl Dt a+1:=by rw[qcl,De (by simpa using hd)];rfl
      rw[h0];cases j with
      | zero=>cases h;exact ⟨fun _=>C3 _,fun _=>hd⟩
      | succ j=>exact (qdi hp.2 j x h).trans Nat.succ_lt_succ_iff.symm
noncomputable def grS (ed:Nat->Nat) (e:Nat) (s:Bool×Nat) (Dt:List Nat):Bool×Nat:=
  if qcl Dt s.2<qcl Dt e then (s.1,ed (Dt.getD (qcl Dt s.2) 0)) else (false,e)
noncomputable def gr (ed:Nat->Nat) (e:Nat) (Ds:List (List Nat)) (s:Bool×Nat):Bool×Nat:=Ds.foldl (grS ed e) s
theorem qrr (ed:Nat->Nat)(e:Nat):∀(Ds:List (List Nat)) (a:Nat),(gr ed e Ds (false,a)).1=false
  | [],_=>rfl
  | Dt::Ds,a=>by
    show (gr ed e Ds (grS ed e (false,a) Dt)).1=false;unfold grS;split <;> exact qrr ed e Ds _
noncomputable def qbo (ep:Nat->Nat) (K:Nat):Nat->Nat->List Nat
  | 0,_=>[]
  | f+1,i=>if i<=K then i::qbo ep K f (ep i+1) else []
def Inn (N:Nat) (ed:Nat->Nat) (H:Nat->Prop) (x:Nat):Prop:=H x/\x<N/\∀y,x<y->y<=ed x->¬H y
theorem Inn.ex {ad:Nat->Nat->Bool}(Dt:Tre N ad ed){H:Nat->Prop}:∀(n r:Nat),ed r<r+n->H r->r<N->∃x,Inn N ed H x/\r<=x/\x<=ed r:=by
  intro n;induction n with
  | zero=>intro r h _ _;exact absurd h (Be.mpr (Dt.ge r))
  | succ n ih=>
    intro r h hr hN;by_cases q:∃y,r<y/\y<=ed r/\H y
    . obtain ⟨y,h1,h2,h3⟩:=q;have hyN:=An h2 (Dt.top r hN);have h4:=Dt.nest h1 h2 hyN;obtain ⟨x,h5,h6,h7⟩:=ih y (by lia) h3 hyN;exact ⟨x,h5,Af (Av h1) h6,Af h7 h4⟩
    . exact ⟨r,⟨hr,hN,fun y h1 h2 h3=>q ⟨y,h1,h2,h3⟩⟩,Ak _,Dt.ge r⟩
theorem qtv {ad:Nat->Nat->Bool}(Dt:Tre N ad ed)(hep:∀i,i<=ep i){H:Nat->Nat->Prop}{e:Nat}{Tl:Nat->List Nat}(he:e<N):
    ∀(f i a:Nat),(∀j,i<=j->j<=K->(Tl j).Pairwise (· < ·)/\∀x,x∈Tl j↔Inn N ed (H j) x)->K<i+f->(∀x,a<x->x<=e->ed x<=e)->((gr ed e ((qbo ep K f i).map Tl) (true,a)).1=true↔Ch ep ed H K e i a):=by
  intro f;induction f with
  | zero=>intro i a _ h _;exact ⟨fun _=>.nil h,fun _=>rfl⟩
  | succ f ih=>
    intro i a hT h ha;unfold qbo;by_cases hi:i<=K
    . rw[if_pos hi];obtain ⟨t1,t2⟩:=hT i (Ak _) hi;have hT':=fun j (h1:ep i+1<=j) h2=>hT j (Af (hep i) (Av h1)) h2
      show (gr ed e ((qbo ep K f (ep i+1)).map Tl) (grS ed e (true,a) (Tl i))).1=true↔_;unfold grS;have hf:K<ep i+1+f:=by have:=hep i;lia
      constructor
      . intro q;by_cases hc:qcl (Tl i) a<qcl (Tl i) e
        . rw[if_pos hc] at q;have hl:=Ah hc (qhu _ e);have hx:=Ad hl;have e1:(Tl i).getD (qcl (Tl i) a) 0=(Tl i)[qcl (Tl i) a]:=by rw[Ae,hx];rfl
          rw[e1] at q;generalize (Tl i)[qcl (Tl i) a]=x at hx q;have x1:a<x:=Bn.mp fun w=>absurd ((qdi t1 _ _ hx).mp w) (BV _)
          have x2:x<=e:=(qdi t1 _ _ hx).mpr hc;have x3:=(t2 x).mp (Aw hx);exact .cons hi x3.1 x1 x2 ((ih _ _ hT' hf fun y h1 h2=>ha y (Ah x1 (Af (Dt.ge x) (Av h1))) h2).mp q)
        . rw[if_neg hc,qrr] at q;cases q
      . intro q;cases q with
        | nil q=>exact absurd hi (Bn.mpr q)
        | @cons _ _ r q1 q2 q3 q4 q5=>
          have hrN:=An q4 he;obtain ⟨y,y1,y2,y3⟩:=Inn.ex Dt (ed r+1) r (by lia) q2 hrN;have ye:y<=e:=Af y3 (ha r q3 q4);have ya:a<y:=Ah q3 y2;obtain ⟨j,hj⟩:=DI ((t2 y).mpr y1);have j1:¬j<qcl (Tl i) a:=fun w=>absurd ((qdi t1 _ _ hj).mpr w) (Bn.mpr ya)
          have j2:=(qdi t1 _ _ hj).mp ye;have hc:qcl (Tl i) a<qcl (Tl i) e:=An (Be.mp j1) j2;rw[if_pos hc];have hl:=Ah hc (qhu _ e);have hx:=Ad hl;have e1:(Tl i).getD (qcl (Tl i) a) 0=(Tl i)[qcl (Tl i) a]:=by rw[Ae,hx];rfl
          rw[e1];generalize hxx:(Tl i)[qcl (Tl i) a]=x at hx;have x1:a<x:=Bn.mp fun w=>absurd ((qdi t1 _ _ hx).mp w) (BV _)
          have x3:=(t2 x).mp (Aw hx);have hxy:ed x<=ed r:=by
            rcases AT y x with w | w
            . exfalso
              rcases AT j (qcl (Tl i) a) with v | v
              . exact j1 v
              . rcases AF v with rfl | v
                . rw[hx] at hj;cases hj;exact BV _ w
                . have:=Bo.mp t1 _ j hl (Ap.mp hj).1 v;rw[(Ap.mp hj).2,hxx] at this;exact F0 w this
            . rcases AF w with rfl | w
              . rcases AF y2 with rfl | v
                . exact Ak _
                . exact Dt.nest v y3 y1.2.1
              . refine Af (Av (Bn.mp fun v=>x3.2.2 y w v y1.1)) y3
          exact (ih _ _ hT' hf fun z h1 h2=>ha z (Ah x1 (Af (Dt.ge x) (Av h1))) h2).mpr (q5.up hxy)
    . rw[if_neg hi];exact ⟨fun _=>.nil (Bn.mp hi),fun _=>rfl⟩
end
section
noncomputable def dpF (N:Nat) (ed:Nat->Nat) (good:Nat->Bool):Nat->List Nat
  | 0=>[]
  | j+1=>if good (N - 1 - j)&&((dpF N ed good j).isEmpty||decide (ed (N - 1 - j)<(dpF N ed good j).headD 0)) then (N - 1 - j)::dpF N ed good j else dpF N ed good j
theorem qqq {ad:Nat->Nat->Bool}(Dt:Tre N ad ed){good:Nat->Bool}:∀j,j<=N->(dpF N ed good j).Pairwise (· < ·)/\∀x,x∈dpF N ed good j↔N - j<=x/\Inn N ed (fun y=>good y=true) x:=by
  intro j;induction j with
  | zero=>intro _;exact ⟨.nil,fun x=>⟨nofun,fun q=>absurd q.2.2.1 (by simp_all)⟩⟩
  | succ j ih=>
    intro hj;obtain ⟨i1,i2⟩:=ih (by lia);unfold dpF;generalize dpF N ed good j=L at i1 i2;have hr:N - 1 - j+1=N - j:=by lia
    have hr':N - (j+1)=N - 1 - j:=by lia
    generalize N - 1 - j=r at hr hr';rw[hr'];have hrN:r<N:=by grind
    have hL:∀x∈L,r<x:=fun x hx=>by have:=((i2 x).mp hx).1;lia
    have hin:(L=[]\/ed r<L.headD 0)->∀y,r<y->y<=ed r->good y=true->False:=by
      intro h y h1 h2 h3;have hyN:=An h2 (Dt.top r hrN);obtain ⟨x,x1,x2,x3⟩:=Inn.ex Dt (H:=fun y=>good y=true) (ed y+1) y (by lia) h3 hyN;have hx:x∈L:=(i2 x).mpr ⟨by lia,x1⟩;have h4:=Dt.nest h1 h2 hyN;cases L with
      | nil=>cases hx
      | cons b L=>
        have hb:b<=x:=by
          rcases AS.mp hx with rfl | q
          . exact Ak _
          . exact Av ((A6.mp i1).1 x q)
        rcases h with h | h
        . cases h
        . exact absurd (show ed r<b from h) (by lia)
    by_cases hg:good r=true
    . by_cases hd:L=[]\/ed r<L.headD 0
      . have hc:(good r&&(L.isEmpty||decide (ed r<L.headD 0)))=true:=by
          rw[hg];rcases hd with rfl | hd
          . rfl
          . rw[decide_eq_true hd,Bool.or_true];rfl
        rw[if_pos hc];refine ⟨A6.mpr ⟨hL,i1⟩,fun x=>?_⟩;rw[AS,i2 x];constructor
        . rintro (rfl | q)
          . exact ⟨Ak _,hg,hrN,fun y h1 h2 h3=>hin hd y h1 h2 h3⟩
          . exact ⟨by lia,q.2⟩
        . rintro ⟨q1,q2⟩
          rcases AF q1 with rfl | q
          . exact .inl rfl
          . exact .inr ⟨by lia,q2⟩
      . have hc:(good r&&(L.isEmpty||decide (ed r<L.headD 0)))=false:=by
          cases L with
          | nil=>exact absurd (.inl rfl) hd
          | cons b L=>
            have:¬ed r<b:=fun w=>hd (.inr w)
            simp[this]
        rw[hc];refine ⟨i1,fun x=>?_⟩;rw[if_neg nofun,i2 x];refine ⟨fun q=>⟨by lia,q.2⟩,fun ⟨q1,q2⟩=>?_⟩;rcases AF q1 with rfl | q
        . cases L with
          | nil=>exact absurd (.inl rfl) hd
          | cons b L=>
            have hb:=(i2 b).mp Am;exact absurd hb.2.1 (q2.2.2 b (hL b Am) (Be.mp fun w=>hd (.inr w)))
        . exact ⟨by lia,q2⟩
    . have hg':good r=false:=by simpa using hg
      rw[hg',Cv];refine ⟨i1,fun x=>?_⟩;rw[if_neg nofun,i2 x];refine ⟨fun q=>⟨by lia,q.2⟩,fun ⟨q1,q2⟩=>?_⟩;rcases AF q1 with rfl | q
      . exact absurd q2.1 hg
      . exact ⟨by lia,q2⟩
section
variable (M N:Nat) (ap ad:Nat->Nat->Bool) (ep ed:Nat->Nat) (tp td:Nat->Bool)
noncomputable def qir (Ds:List (List Nat)) (k r:Nat):Bool:=(gr ed (ed r) Ds (td r==tp k,r)).1
noncomputable def DkF:Nat->Nat->List Nat
  | 0,_=>[]
  | f+1,k=>dpF N ed (qir ed tp td ((qbo ep (ep k) M (k+1)).map (DkF f)) k) N
variable {M N ap ad ep ed tp td} (Pt:Tre M ap ep) (Dt:Tre N ad ed)
include Pt Dt
theorem qiq {f:Nat}(hk:k<M)(hf:∀i,k+1<=i->i<=ep k->(DkF M N ep ed tp td f i).Pairwise (· < ·)/\∀x,x∈DkF M N ep ed tp td f i↔Inn N ed (Hit ap ad ep tp td N i) x)(hr:r<N):
    qir ed tp td ((qbo ep (ep k) M (k+1)).map (DkF M N ep ed tp td f)) k r=true↔Hit ap ad ep tp td N k r:=by
  rw[Ie9 Pt Dt hk hr];have h:=qtv (Tl:=DkF M N ep ed tp td f) Dt Pt.ge (Dt.top r hr) (H:=Hit ap ad ep tp td N) (K:=ep k) M (k+1) r hf (by have:=Pt.top k hk;lia) fun x h1 h2=>Dt.nest h1 h2 (An h2 (Dt.top r hr))
  unfold qir;cases ht:td r==tp k with
  | true=>rw[h];exact ⟨fun q=>⟨CK ht,q⟩,fun q=>q.2⟩
  | false=>rw[qrr];exact ⟨nofun,fun q=>absurd q.1 (by simpa using ht)⟩
theorem qov:∀(f k:Nat),k<M->M<=k+f->(DkF M N ep ed tp td f k).Pairwise (· < ·)/\∀x,x∈DkF M N ep ed tp td f k↔Inn N ed (Hit ap ad ep tp td N k) x:=by
  intro f;induction f with
  | zero=>intro k h1 h2;exact absurd h1 (by lia)
  | succ f ih=>
    intro k h1 h2;have hg:=fun r (hr:r<N)=>qiq Pt Dt (f:=f) h1 (fun i q1 q2=>ih i (An q2 (Pt.top k h1)) (by lia)) hr
    obtain ⟨q1,q2⟩:=qqq Dt (good:=qir ed tp td ((qbo ep (ep k) M (k+1)).map (DkF M N ep ed tp td f)) k) N (Ak _);refine ⟨q1,fun x=>(q2 x).trans ?_⟩;constructor
    . rintro ⟨_,w1,w2,w3⟩
      exact ⟨(hg x w2).mp w1,w2,fun y h3 h4 h5=>w3 y h3 h4 ((hg y (An h4 (Dt.top x w2))).mpr h5)⟩
    . rintro ⟨w1,w2,w3⟩
      exact ⟨by simp,(hg x w2).mpr w1,w2,fun y h3 h4 h5=>w3 y h3 h4 ((hg y (An h4 (Dt.top x w2))).mp h5)⟩
end
end
section
noncomputable def qab (f:Nat->Int):Nat->List Nat
  | 0=>[]
  | p+1=>(qab f p ++ [p]).take ((f (p+1)).fmod ((qab f p ++ [p]).length:Nat)+1).toNat
noncomputable def anN (f:Nat->Int) (p q:Nat):Bool:=(qab f q).contains p
theorem anN_iff {f:Nat->Int}{p:Nat}:anN f p q=true↔p∈qab f q:=Cn
theorem qdc (f:Nat->Int)(p:Nat):qab f (p+1) <+: qab f p ++ [p]:=List.take_prefix _ _
theorem qp5 (f:Nat->Int)(p:Nat):qab f (p+1)≠[]:=by
  intro h;have h1:=congrArg Fx h;rw[qab,Df,Ao,BJ,CW] at h1;have h2:=BX (f (p+1)) (b:=((qab f p).length+1:Nat)) (by simp);omega
theorem qb0 {f:Nat->Int}:∀{q x:Nat},x∈qab f q->x<q
  | 0,_,h=>nomatch h
  | q+1,x,h=>by
    rcases BW.mp ((qdc f q).subset h) with h | h
    . exact Cc (qb0 h)
    . rw[AL.mp h];exact Bp _
theorem qb2 (f:Nat->Int):∀q,(qab f q).Pairwise (· < ·)
  | 0=>.nil
  | q+1=>List.Pairwise.sublist (qdc f q).sublist (BB.mpr ⟨qb2 f q,List.pairwise_singleton _ _,fun a ha b hb=>by rw[AL.mp hb];exact qb0 ha⟩)
theorem qfs {f:Nat->Int}{x:Nat}:∀{q:Nat},x∈qab f q->qab f x ++ [x] <+: qab f q
  | 0,h=>nomatch h
  | q+1,h=>by
    have h0:=qdc f q;rcases BW.mp (h0.subset h) with h1 | h1
    . have h2:=(qfs h1).trans (Fc _ [q]);rcases AT (qab f (q+1)).length (qab f x ++ [x]).length with w | w
      . have h3:=BR h0 h2 (Av w);have h4:=BR h3 (Fc (qab f x) [x]) (by rw[Ao,BJ] at w;lia);exact absurd (qb0 (h4.subset h)) (BV _)
      . exact BR h2 h0 w
    . obtain rfl:=AL.mp h1;rcases AT (qab f (x+1)).length (qab f x ++ [x]).length with w | w
      . have h4:=BR h0 (Fc (qab f x) [x]) (by rw[Ao,BJ] at w;lia);exact absurd (qb0 (h4.subset h)) (BV _)
      . exact BR (List.prefix_refl _) h0 w
theorem qft {f:Nat->Int}{x:Nat}(hr:x<r):∀{q:Nat},x∈qab f q->r<=q->x∈qab f r
  | 0,h,_=>nomatch h
  | q+1,h,hq=>by
    rcases AF hq with rfl | hq
    . exact h
    . rcases BW.mp ((qdc f q).subset h) with h1 | h1
      . exact qft hr h1 (AH hq)
      . exact absurd (AL.mp h1) (by lia)
noncomputable def qvp (l:List Nat):Nat:=l.foldl max 0
theorem qnf:∀(l:List Nat) (a:Nat),(l.foldl max a=a\/l.foldl max a∈l)/\a<=l.foldl max a/\∀x∈l,x<=l.foldl max a
  | [],a=>⟨.inl rfl,Ak _,nofun⟩
  | b::l,a=>by
    obtain ⟨h1,h2,h3⟩:=qnf l (max a b);refine ⟨?_,Af (Nat.le_max_left _ _) h2,fun x hx=>?_⟩
    . rcases h1 with h1 | h1
      . rw[Gl,h1];rcases FZ a b with q | q
        . rw[FO q];exact .inr Am
        . rw[Gk q];exact .inl rfl
      . exact .inr (Az _ h1)
    . rcases AS.mp hx with rfl | hx
      . exact Af (Nat.le_max_right _ _) h2
      . exact h3 x hx
noncomputable def qoy (N:Nat) (f:Nat->Int) (p:Nat):List Nat:=(Ac N).filter fun q=>q==p||anN f p q
noncomputable def qa6 (N:Nat) (f:Nat->Int) (p:Nat):Nat:=if p<N then qvp (qoy N f p) else p
theorem mem_endL {f:Nat->Int}{p:Nat}:q∈qoy N f p↔q<N/\(q=p\/anN f p q=true):=by
  rw[qoy,CB,Bi,D3,beq_iff_eq]
theorem qgb {f:Nat->Int}{p:Nat}(h:p<N):qa6 N f p∈qoy N f p/\∀x∈qoy N f p,x<=qa6 N f p:=by
  rw[qa6,if_pos h];obtain ⟨h1,h2,h3⟩:=qnf (qoy N f p) 0;refine ⟨?_,h3⟩;rcases h1 with h1 | h1
  . have hp:p∈qoy N f p:=mem_endL.mpr ⟨h,.inl rfl⟩;have:=h3 p hp;rw[h1] at this;show (qoy N f p).foldl max 0∈_;rw[h1,<- Nat.le_zero.mp this];exact hp
  . exact h1
theorem qf1 (N:Nat)(f:Nat->Int):Tre N (anN f) (qa6 N f) where
  lt p q h:=qb0 (anN_iff.mp h)
  mid p q r h h1 h2:=anN_iff.mpr (qft h1 (anN_iff.mp h) h2)
  tr p q r h h':=anN_iff.mpr ((qfs (anN_iff.mp h')).subset (List.mem_append_left _ (anN_iff.mp h)))
  ens p q h hq:=by
    obtain ⟨h1,h2⟩:=qgb (f:=f) (Bq h hq);refine ⟨fun w=>h2 q (mem_endL.mpr ⟨hq,.inr w⟩),fun w=>?_⟩;rcases (mem_endL.mp h1).2 with e | e
    . exact absurd w (by lia)
    . exact anN_iff.mpr (qft h (anN_iff.mp e) w)
  ge p:=by
    by_cases h:p<N
    . exact (qgb h).2 p (mem_endL.mpr ⟨h,.inl rfl⟩)
    . rw[qa6,if_neg h];exact Ak _
  top p h:=(mem_endL.mp (qgb h).1).1
noncomputable def qd6 (f:Nat->Int) (q:Nat):Nat:=(qab f q).getLastD 0
theorem qfv {f:Nat->Int}(h:0<q):∃L,qab f q=L ++ [qd6 f q]:=by
  cases q with
  | zero=>exact absurd h (BV _)
  | succ q=>
    have hn:=qp5 f q;refine ⟨(qab f (q+1)).dropLast,?_⟩;rw[qd6,List.getLastD_eq_getLast?,List.getLast?_eq_some_getLast hn];exact (ES hn).symm
theorem qe0 {f:Nat->Int}(h:0<q):anN f (qd6 f q) q=true:=by
  obtain ⟨L,e⟩:=qfv (f:=f) h;rw[anN_iff,e];exact Et _ (AL.mpr rfl)
theorem qff {f:Nat->Int}{x:Nat}(h:anN f x q=true):x<=qd6 f q:=by
  have h0:0<q:=An (AI _) (qb0 (anN_iff.mp h));obtain ⟨L,e⟩:=qfv (f:=f) h0;have h1:=anN_iff.mp h;have hs:=qb2 f q;rw[e] at h1 hs;rcases BW.mp h1 with h1 | h1
  . exact Av ((BB.mp hs).2.2 x h1 _ (AL.mpr rfl))
  . rw[AL.mp h1];exact Ak _
noncomputable def qfd (N:Nat) (f:Nat->Int) (p:Nat):List Nat:=(Ac N).filter fun q=>decide (0<q)&&qd6 f q==p
theorem qpl {f:Nat->Int}{p:Nat}(hp:p<N):∀(m i:Nat),p<i->qa6 N f p<i+m->(i<=qa6 N f p->qd6 f i=p)->qbo (qa6 N f) (qa6 N f p) m i=(CI i (qa6 N f p+1 - i)).filter fun q=>decide (0<q)&&qd6 f q==p:=by
  have Tt:=qf1 N f;intro m;induction m with
  | zero=>intro i h1 h2 _;rw[show qa6 N f p+1 - i=0 by omega];rfl
  | succ m ih=>
    intro i h1 h2 h3;unfold qbo;by_cases hi:i<=qa6 N f p
    . rw[if_pos hi];have hiN:=An hi (Tt.top p hp);have hn:=Tt.nest h1 hi hiN;have hg:=Tt.ge i;have htp:=Tt.top i hiN;have htq:=Tt.top p hp;have hpar:=h3 hi;rw[ih (qa6 N f i+1) (by lia) (by lia) ?_]
      . rw[show qa6 N f p+1 - i=1+((qa6 N f i - i)+(qa6 N f p - qa6 N f i)) by grind,<- DJ,<- DJ,CO,CO,show i+1+(qa6 N f i - i)=qa6 N f i+1 by grind,show qa6 N f p+1 - (qa6 N f i+1)=qa6 N f p - qa6 N f i by simp];have e1:(CI i 1).filter (fun q=>decide (0<q)&&qd6 f q==p)=[i]:=by
          show [i].filter _=_;rw[De]
          . rfl
          . rw[decide_eq_true (An (AI _) h1),hpar];simp
        have e2:(CI (i+1) (qa6 N f i - i)).filter (fun q=>decide (0<q)&&qd6 f q==p)=[]:=by
          rw[BD];intro q hq;rw[BN] at hq;have h4:=qff ((Tt.ens i q (by lia) (by grind)).mpr (by grind));have:(qd6 f q==p)=false:=by rw[beq_eq_false_iff_ne];lia
          rw[this,CP];exact nofun
        rw[e1,e2];rfl
      . intro w;have h5:=(Tt.ens p (qa6 N f i+1) (by lia) (by lia)).mpr w;have h6:=qff h5;rcases AF h6 with e | h7
        . exact e.symm
        . have h8:=qe0 (f:=f) (q:=qa6 N f i+1) (by simp);have h9:=Tt.lt _ _ h8;generalize qd6 f (qa6 N f i+1)=z at h7 h8 h9;exfalso
          rcases AT z i with v | v
          . have:=qff (Tt.mid z _ i h8 v (by lia));lia
          . rw[Tt.out v (by lia) (Bp _) (by lia)] at h8;cases h8
    . rw[if_neg hi,show qa6 N f p+1 - i=0 by omega];rfl
end
section
theorem qs0 {p q:α->Bool}{l:List α}(h:∀x∈l,p x=true->q x=true){i:α}(hi:i∈l)(h1:q i=true)(h2:p i=false):(l.filter p).length<(l.filter q).length:=by
  have e:l.filter p=(l.filter q).filter p:=by
    rw[List.filter_filter];refine Bx fun x hx=>?_
    cases hp:p x with
    | false=>rfl
    | true=>rw[h x hx hp];rfl
  rw[e];exact List.length_filter_lt_length_iff_exists.mpr ⟨i,CB.mpr ⟨hi,h1⟩,by rw[h2];exact nofun⟩
theorem qli {m:Nat}{a b:Nat->Nat->Bool}(ma:∀i j r,j<m->a i j=true->i<r->r<=j->a i r=true)(ta:∀i j r,r<m->j<r->a i j=true->a j r=true->a i r=true)(mb:∀i j r,j<m->b i j=true->i<r->r<=j->b i r=true)(tb:∀i j r,r<m->j<r->b i j=true->b j r=true->b i r=true)(hc:∀j,j<m->((Ac j).filter fun i=>a i j).length=((Ac j).filter fun i=>b i j).length):∀j,j<m->∀i,i<j->a i j=b i j:=by
  have half:∀{a b:Nat->Nat->Bool},(∀i j r,j<m->a i j=true->i<r->r<=j->a i r=true)->(∀i j r,r<m->j<r->a i j=true->a j r=true->a i r=true)->(∀i j r,j<m->b i j=true->i<r->r<=j->b i r=true)->(∀i j r,r<m->j<r->b i j=true->b j r=true->b i r=true)->
      ∀j,j<m->(∀j',j'<j->∀i,i<j'->a i j'=b i j')->∀i,i<j->a i j=true->b i j=false->((Ac j).filter fun i=>b i j).length<((Ac j).filter fun i=>a i j).length:=by
    intro a b ma ta mb tb j hj ih i hi h1 h2;refine qs0 (fun y hy hb=>?_) (Bi.mpr hi) h1 h2;rw[Bi] at hy;rcases Ek y i with w | rfl | w
    . have h3:=mb y j i hj hb w (Av hi);rw[<- ih i hi y w] at h3;exact ta y i j hj hi h3 h1
    . exact h1
    . have h3:=ma i j y hj h1 w (Av hy);rw[ih y hy i w] at h3;rw[tb i y j hj hy h3 hb] at h2;cases h2
  intro j;induction j using Nat.strongRecOn with
  | _ j ih=>
    intro hj i hi;cases h1:a i j with
    | true=>
      cases h2:b i j with
      | true=>rfl
      | false=>exact absurd (hc j hj) (C1 (half ma ta mb tb j hj (fun j' q i'=>ih j' q (Bq q hj) i') i hi h1 h2))
    | false=>
      cases h2:b i j with
      | false=>rfl
      | true=>exact absurd (hc j hj) (B9 (half mb tb ma ta j hj (fun j' q i' w=>(ih j' q (Bq q hj) i' w).symm) i hi h2 h1))
noncomputable def acL (an:Nat->Nat->Bool) (L:List Nat) (p:Nat):Nat:=(L.filter fun x=>an x p).length
theorem qj9 {an:Nat->Nat->Bool}(hs:L.Pairwise (· < ·))(hl:∀p q,an p q=true->p<q)(hj:j<L.length):acL an L (L.getD j 0)=((Ac j).filter fun i=>an (L.getD i 0) (L.getD j 0)).length:=by
  have e:L=(Ac L.length).map fun i=>L.getD i 0:=by
    apply Fy;intro i;rw[Aj];by_cases h:i<L.length
    . rw[Ba h,Ad h];show _=some (L.getD i 0);rw[Ae,Ad h];rfl
    . rw[BK (Be.mp h),BK (by rw[AM];simp_all)];rfl
  have hlt:∀i,j<=i->i<L.length->L.getD j 0<=L.getD i 0:=by
    intro i h1 h2;rcases AF h1 with rfl | h1
    . exact Ak _
    . have:=Bo.mp hs j i hj h2 h1;rw[Ae,Ae,Ad hj,Ad h2];exact Av this
  generalize L.getD j 0=p at hlt ⊢;show (L.filter _).length=_;conv=>lhs;rw[e]
  rw[ET,Ab,show L.length=j+(L.length - j) by lia,List.range_add,CO,Ao];have e2:((Ac (L.length - j)).map (j + ·)).filter ((fun x=>an x p) ∘ fun i=>L.getD i 0)=[]:=by
    rw[BD];intro i hi;obtain ⟨k,hk,rfl⟩:=Br.mp hi;rw[Bi] at hk;show ¬an (L.getD (j+k) 0) p=true;intro q;exact absurd (hl _ _ q) (Be.mpr (hlt (j+k) (AZ _ _) (by grind)))
  rw[e2];rfl
section
variable {M:Nat} {ap ad:Nat->Nat->Bool} {tp td:Nat->Bool} (Pt:Tre M ap ep) (Dt:Tre N ad ed)
theorem qjw (hs:L.Pairwise (· < ·))(h:i<j)(hj:j<L.length):L.getD i 0<L.getD j 0:=by
  have:=Bo.mp hs i j (Bq h hj) hj h;rw[Ae,Ae,Ad hj,Ad (Bq h hj)];exact this
theorem qrs (hs:L.Pairwise (· < ·))(h:i<=j)(hj:j<L.length):L.getD i 0<=L.getD j 0:=by
  rcases AF h with rfl | h
  . exact Ak _
  . exact Av (qjw hs h hj)
noncomputable def qc9 (an:Nat->Nat->Bool) (t:Nat->Bool) (L:List Nat):List (Bool×Nat):=L.map fun p=>(t p,acL an L p)
noncomputable abbrev subL (ep:Nat->Nat) (k:Nat):List Nat:=CI k (ep k+1 - k)
theorem qfk (h:i<n):(CI k n).getD i 0=k+i:=by
  rw[Ae,List.getElem?_range' h];simp
include Pt Dt
theorem Idm (hk:k<M):Hit ap ad ep tp td N k r↔∃L:List Nat,L.Pairwise (· < ·)/\(∀x∈L,x<N)/\L.head?=some r/\qc9 ad td L=qc9 ap tp (subL ep k):=by
  have hge:=Pt.ge k;constructor
  . rintro ⟨s,hs,f1,f2⟩
    have hp:((subL ep k).map s).Pairwise (· < ·):=by
      rw[Fz];refine (Dg (s:=k) (n:=ep k+1 - k)).imp_of_mem fun {a b} ha hb h=>?_
      rw[BN] at ha hb;exact (f2 a b ha.1 h (by lia)).1
    refine ⟨(subL ep k).map s,hp,?_,?_,?_⟩
    . intro x hx;obtain ⟨q,hq,rfl⟩:=Br.mp hx;rw[BN] at hq;exact (f1 q hq.1 (by lia)).1
    . rw[subL,show ep k+1 - k=(ep k - k)+1 by grind,List.range'_succ,Bz,hs];rfl
    . unfold qc9;rw[Bv];refine AN fun q hq=>?_
      have hq':=BN.mp hq;show (td (s q),acL ad ((subL ep k).map s) (s q))=_;rw[(f1 q hq'.1 (by lia)).2];congr 1
      unfold acL;rw[ET,Ab];congr 1
      refine Bx fun x hx=>?_
      have hx':=BN.mp hx;show ad (s x) (s q)=ap x q;rcases AT x q with w | w
      . exact (f2 x q hx'.1 w (by lia)).2
      . have c1:ap x q=false:=by
          cases hb:ap x q with
          | false=>rfl
          | true=>exact absurd (Pt.lt _ _ hb) (Be.mpr w)
        have c2:ad (s x) (s q)=false:=by
          cases hb:ad (s x) (s q) with
          | false=>rfl
          | true=>
            have h3:=Dt.lt _ _ hb;rcases AF w with rfl | w
            . exact absurd h3 (BV _)
            . exact absurd h3 (F0 (f2 q x hq'.1 w (by lia)).1)
        rw[c1,c2]
  . rintro ⟨L,l1,l2,l3,l4⟩
    have hlen:L.length=ep k+1 - k:=by
      have:=congrArg Fx l4;rw[qc9,qc9,Ab,Ab,Fd] at this;exact this
    have hat:∀j,j<L.length->td (L.getD j 0)=tp (k+j)/\acL ad L (L.getD j 0)=acL ap (subL ep k) (k+j):=by
      intro j hj;have h:=congrArg (·[j]?) l4;simp only[qc9,Aj,Ad hj,List.getElem?_range' (hlen ▸ hj),Nat.one_mul] at h;have h:=Sj h;have e:L.getD j 0=L[j]:=by rw[Ae,Ad hj];rfl
      rw[e];exact ⟨congrArg Prod.fst h,congrArg Prod.snd h⟩
    have hsub:(subL ep k).Pairwise (· < ·):=Dg;have hmem:∀j,j<L.length->L.getD j 0<N:=fun j hj=>l2 _ (by
      rw[Ae,Ad hj];exact DP hj)
    have key:=qli (m:=L.length) (a:=fun i j=>ad (L.getD i 0) (L.getD j 0)) (b:=fun i j=>ap (k+i) (k+j))
      (fun i j r hj h1 h2 h3=>Dt.mid _ _ _ h1 (qjw l1 h2 (An h3 hj)) (qrs l1 h3 hj))
      (fun i j r hr h1 h2 h3=>Dt.tr _ _ _ h2 h3)
      (fun i j r hj h1 h2 h3=>Pt.mid _ _ _ h1 (by simp_all) (by simp_all))
      (fun i j r hr h1 h2 h3=>Pt.tr _ _ _ h2 h3)
      (fun j hj=>by
        have h1:=(hat j hj).2;rw[qj9 l1 Dt.lt hj] at h1;have hj':j<(subL ep k).length:=by rw[Fd];simp_all
        have h2:=qj9 (an:=ap) hsub Pt.lt hj';rw[qfk (by simp_all)] at h2;rw[h1,h2];congr 1
        refine Bx fun x hx=>?_
        rw[qfk (by rw[Bi] at hx;lia)])
    refine ⟨fun x=>L.getD (x - k) 0,?_,?_,?_⟩
    . show L.getD (k - k) 0=r;rw[Nat.sub_self,Ae,<- List.head?_eq_getElem?,l3];rfl
    . intro x h1 h2;have hx:x - k<L.length:=by lia
      refine ⟨hmem _ hx,?_⟩;have:=(hat _ hx).1;rwa[B0 h1] at this
    . intro x y h1 h2 h3;have hy:y - k<L.length:=by lia
      refine ⟨qjw l1 (by lia) hy,?_⟩;have:=key (y - k) hy (x - k) (by lia);rwa[B0 h1,B0 (Af h1 (Av h2))] at this
end
end
section
theorem qlv (hep:∀i,i<=ep i):∀(m i:Nat),i<=K->K<i+m->∃L c,qbo ep K m i=L ++ [c]/\i<=c/\c<=K/\K<=ep c:=by
  intro m;induction m with
  | zero=>intro i h1 h2;exact absurd h1 (Bn.mpr h2)
  | succ m ih=>
    intro i h1 h2;unfold qbo;rw[if_pos h1];rcases AT (ep i) K with h | h
    . obtain ⟨L,c,e,h3,h4,h5⟩:=ih (ep i+1) h (by have:=hep i;lia);exact ⟨i::L,c,by rw[e];rfl,Af (hep i) (Av h3),h4,h5⟩
    . refine ⟨[],i,?_,Ak _,h1,h⟩;have:qbo ep K m (ep i+1)=[]:=by
        cases m with
        | zero=>rfl
        | succ m=>unfold qbo;rw[if_neg (Bn.mpr (C2 h))]
      rw[this];rfl
theorem qjs {f:Nat->Int}{p:Nat}(hp:p<N):qfd N f p=qbo (qa6 N f) (qa6 N f p) N (p+1):=by
  have Tt:=qf1 N f;have h1:=Tt.ge p;have h2:=Tt.top p hp;rw[qpl hp N (p+1) (Bp p) (by lia) ?_]
  . unfold qfd;have hr:∀e,p<=e->e<N->Ac N=CI 0 (p+1) ++ (CI (p+1) (e+1 - (p+1)) ++ CI (e+1) (N - 1 - e)):=by
      intro e h3 h4;have a1:=DJ (s:=p+1) (m:=e+1 - (p+1)) (n:=N - 1 - e);rw[show p+1+(e+1 - (p+1))=e+1 by grind,show e+1 - (p+1)+(N - 1 - e)=N - (p+1) by grind] at a1;have a2:=DJ (s:=0) (m:=p+1) (n:=N - (p+1));rw[show 0+(p+1)=p+1 by simp,show p+1+(N - (p+1))=N by grind] at a2;rw[a1,a2,List.range_eq_range']
    have no:∀q,0<q->q<N->(q<=p\/qa6 N f p<q)->(qd6 f q==p)=false:=by
      intro q h0 hq h;rw[beq_eq_false_iff_ne];intro e;have h3:=qe0 (f:=f) h0;rw[e] at h3;rcases h with h | h
      . exact absurd (Tt.lt _ _ h3) (Be.mpr h)
      . rw[Tt.no (Tt.lt _ _ h3) hq h] at h3;cases h3
    have e1:(CI 0 (p+1)).filter (fun q=>decide (0<q)&&qd6 f q==p)=[]:=by
      rw[BD];intro q hq;rw[BN] at hq;rcases D9 q with rfl | h0
      . exact nofun
      . rw[no q h0 (by lia) (.inl (by lia)),CP];exact nofun
    have e3:(CI (qa6 N f p+1) (N - 1 - qa6 N f p)).filter (fun q=>decide (0<q)&&qd6 f q==p)=[]:=by
      rw[BD];intro q hq;rw[BN] at hq;rw[no q (by omega) (by omega) (.inr (by omega)),CP];exact nofun
    rw[hr _ h1 h2,CO,CO,e1,e3,Bf,CX]
  . intro h;have h3:=qff ((Tt.ens p (p+1) (Bp p) (by lia)).mpr h);have h4:=qb0 (anN_iff.mp (qe0 (f:=f) (q:=p+1) (C3 p)));lia
theorem qpz {f:Nat->Int}{p:Nat}(hp:p<N):(qfd N f p=[]/\qa6 N f p=p)\/∃L c,qfd N f p=L ++ [c]/\p<c/\c<N/\qa6 N f c=qa6 N f p:=by
  have Tt:=qf1 N f;have h2:=Tt.top p hp;rcases AT p (qa6 N f p) with h | h
  . refine .inr ?_;obtain ⟨L,c,e,h3,h4,h5⟩:=qlv Tt.ge N (p+1) h (by lia);have hc:c<N:=An h4 h2;exact ⟨L,c,by rw[qjs hp,e],h3,hc,BG (Tt.nest h3 h4 hc) h5⟩
  . refine .inl ⟨?_,BG h (Tt.ge p)⟩;rw[qjs hp];cases N with
    | zero=>rfl
    | succ N=>unfold qbo;rw[if_neg (by lia)]
theorem qdl:∀{L:List Nat} {m:Nat},L.Pairwise (· < ·)->(∀x∈L,x<m)->(L.map fun x=>2 ^ x).sum<2 ^ m
  | [],m,_,_=>Gr (by decide)
  | x::L,m,h,hx=>by
    rw[A6] at h;have h1:=hx x Am;have key:∀(n x:Nat) (L:List Nat),L.length<=n->x<m->L.Pairwise (· < ·)->(∀y∈L,x<y/\y<m)->2 ^ x+(L.map fun y=>2 ^ y).sum+2 ^ x<=2 ^ m:=by
      intro n;induction n with
      | zero=>
        intro x L hl hx _ _;obtain rfl:=Dn (Nat.le_zero.mp hl);have:=Cb (show 0<2 by decide) (FA hx);rw[Dr] at this;show 2 ^ x+0+2 ^ x<=_;lia
      | succ n ih=>
        intro x L hl hx hp hy;cases L with
        | nil=>exact ih x [] (AI _) hx .nil nofun
        | cons y L=>
          rw[A6] at hp;have hxy:=hy y Am;have h2:=ih y L (Nat.le_of_succ_le_succ hl) hxy.2 hp.2 fun z hz=>⟨hp.1 z hz,(hy z (Az _ hz)).2⟩
          have h3:=Cb (show 0<2 by decide) (FA hxy.1);rw[Dr] at h3;rw[Bz,Cr];lia
    have h2:=key L.length x L (Ak _) h1 h.2 fun y hy=>⟨h.1 y hy,hx y (Az _ hy)⟩
    have h3:=Gr (n:=x) (show 0<2 by decide);rw[Bz,Cr];lia
end
section
noncomputable def qgk (A:List Nat) (p r:Nat):List Nat:=A.take p ++ [r] ++ A.drop p
noncomputable def qcw (p:Nat->Bool) (A:List Nat):Nat:=(A.filter p).length
theorem qjh (p:Nat->Bool)(A:List Nat):qcw p A<=A.length:=Bu _ _
theorem qdy {p:Nat->Bool}:∀{A:List Nat},A.Pairwise (fun a b=>p b=true->p a=true)->∀j x,A[j]?=some x->(p x=true↔j<qcw p A)
  | [],_,j,x,h=>by simp at h
  | a::A,hp,j,x,h=>by
    rw[A6] at hp;cases ha:p a with
    | false=>
      have h0:qcw p (a::A)=0:=by
        rw[qcw,BD.mpr]
        . rfl
        . intro y hy q;rcases AS.mp hy with rfl | hy
          . rw[ha] at q;cases q
          . rw[hp.1 y hy q] at ha;cases ha
      rw[h0];refine ⟨fun q=>?_,fun q=>absurd q (B8 _)⟩;rcases AS.mp (Aw h) with rfl | hy
      . rw[ha] at q;cases q
      . rw[hp.1 x hy q] at ha;cases ha
    | true=>
      have h0:qcw p (a::A)=qcw p A+1:=by rw[qcw,De ha];rfl
      rw[h0];cases j with
      | zero=>cases h;exact ⟨fun _=>C3 _,fun _=>ha⟩
      | succ j=>exact (qdy hp.2 j x h).trans Nat.succ_lt_succ_iff.symm
theorem qg3 {R:Nat->Nat->Prop}{p:Nat->Bool}{A:List Nat}(hp:A.Pairwise (fun a b=>p b=true->p a=true))(hA:A.Pairwise R)(h1:∀x∈A,p x=true->R x r)(h2:∀x∈A,p x=false->R r x):(qgk A (qcw p A) r).Pairwise R:=by
  unfold qgk;have ht:∀x∈A.take (qcw p A),x∈A/\p x=true:=fun x hx=>by
    obtain ⟨j,hj⟩:=DI hx;rw[Fe] at hj;by_cases q:j<qcw p A
    . rw[if_pos q] at hj;exact ⟨Aw hj,(qdy hp j x hj).mpr q⟩
    . rw[if_neg q] at hj;cases hj
  have hd:∀x∈A.drop (qcw p A),x∈A/\p x=false:=fun x hx=>by
    obtain ⟨j,hj⟩:=DI hx;rw[Ea] at hj;refine ⟨Aw hj,?_⟩;cases hb:p x with
    | false=>rfl
    | true=>have:=(qdy hp _ x hj).mp hb;lia
  rw[AX];refine BB.mpr ⟨hA.sublist (List.take_sublist _ _),A6.mpr ⟨fun x hx=>h2 x (hd x hx).1 (hd x hx).2,hA.sublist (List.drop_sublist _ _)⟩,?_⟩;intro x hx y hy;rcases AS.mp hy with rfl | hy
  . exact h1 x (ht x hx).1 (ht x hx).2
  . have:=(Eu (qcw p A) A) ▸ hA;exact (BB.mp this).2.2 x hx y hy
theorem qg4 (A:List Nat)(p r:Nat):(qgk A p r).Perm (r::A):=by
  unfold qgk;rw[AX];refine List.perm_middle.trans ?_;show (r::(A.take p ++ A.drop p)).Perm _;rw[Eu]
noncomputable def afF (N:Nat) (p:Nat->Nat->Bool) (good:Nat->Bool):Nat->List Nat
  | 0=>[]
  | j+1=>if good (N - 1 - j)=true then qgk (afF N p good j) (qcw (p (N - 1 - j)) (afF N p good j)) (N - 1 - j) else afF N p good j
theorem qgh {p:Nat->Nat->Bool}{good:Nat->Bool}:∀j,j<=N->(afF N p good j).Nodup/\∀x,x∈afF N p good j↔N - j<=x/\x<N/\good x=true:=by
  intro j;induction j with
  | zero=>intro _;exact ⟨.nil,fun x=>⟨nofun,fun q=>absurd q.2.1 (by lia)⟩⟩
  | succ j ih=>
    intro hj;obtain ⟨i1,i2⟩:=ih (by lia);unfold afF;by_cases h:good (N - 1 - j)=true
    . rw[if_pos h];have hp:=qg4 (afF N p good j) (qcw (p (N - 1 - j)) (afF N p good j)) (N - 1 - j);refine ⟨hp.nodup_iff.mpr (Gm.mpr ⟨fun q=>?_,i1⟩),fun x=>?_⟩
      . have:=((i2 _).mp q).1;lia
      . rw[hp.mem_iff,AS,i2];constructor
        . rintro (rfl | q)
          . exact ⟨by lia,by omega,h⟩
          . exact ⟨by grind,q.2⟩
        . rintro ⟨q1,q2⟩
          by_cases e:x=N - 1 - j
          . exact .inl e
          . exact .inr ⟨by grind,q2⟩
    . rw[if_neg h];refine ⟨i1,fun x=>(i2 x).trans ⟨fun q=>⟨by grind,q.2⟩,fun q=>⟨?_,q.2⟩⟩⟩;by_cases e:x=N - 1 - j
      . exact absurd (e ▸ q.2.2) h
      . grind
theorem qh4 {p:Nat->Nat->Bool}{good:Nat->Bool}{R:Nat->Nat->Prop}(hR:∀r a b,R a b->p r b=true->p r a=true)(h1:∀r x,r<x->p r x=true->R x r)(h2:∀r x,r<x->p r x=false->R r x):∀j,j<=N->(afF N p good j).Pairwise R:=by
  intro j;induction j with
  | zero=>intro _;exact .nil
  | succ j ih=>
    intro hj;have i1:=ih (by lia);unfold afF;by_cases h:good (N - 1 - j)=true
    . rw[if_pos h];have hm:∀x∈afF N p good j,N - j<=x/\x<N/\good x=true:=fun x hx=>((qgh (p:=p) (good:=good) j (by lia)).2 x).mp hx
      exact qg3 (i1.imp fun q=>hR _ _ _ q) i1 (fun x hx=>h1 (N - 1 - j) x (by have:=(hm x hx).1;grind)) (fun x hx=>h2 (N - 1 - j) x (by have:=(hm x hx).1;lia))
    . rw[if_neg h];exact i1
noncomputable abbrev pR (ed:Nat->Nat) (r x:Nat):Bool:=decide (ed x<=ed r)
noncomputable abbrev pL (ed:Nat->Nat) (r x:Nat):Bool:=decide (ed x<ed r)
abbrev ltR (ed:Nat->Nat) (a b:Nat):Prop:=ed a<ed b\/(ed a=ed b/\b<a)
abbrev ltL (ed:Nat->Nat) (a b:Nat):Prop:=ed a<ed b\/(ed a=ed b/\a<b)
theorem qfa (N:Nat)(ed:Nat->Nat)(good:Nat->Bool)(h:j<=N):(afF N (pR ed) good j).Pairwise (ltR ed):=
  qh4 (fun r a b q h=>by simp only[decide_eq_true_eq] at h ⊢;rcases q with q | q <;> lia) (fun r x hx h=>by simp only[decide_eq_true_eq] at h;exact (Co h).imp id fun q=>⟨q,hx⟩) (fun r x hx h=>by simp only[decide_eq_false_iff_not] at h;exact .inl (Bn.mp h)) j h
theorem qf9 (N:Nat)(ed:Nat->Nat)(good:Nat->Bool)(h:j<=N):(afF N (pL ed) good j).Pairwise (ltL ed):=
  qh4 (fun r a b q h=>by simp only[decide_eq_true_eq] at h ⊢;rcases q with q | q <;> lia) (fun r x hx h=>by simp only[decide_eq_true_eq] at h;exact .inl h) (fun r x hx h=>by simp only[decide_eq_false_iff_not] at h;exact (Co (Be.mp h)).imp id fun q=>⟨q,hx⟩) j h
theorem qnn (h:L.Pairwise (ltR ed)):L.Pairwise fun a b=>ed a<=ed b:=h.imp fun q=>q.elim Av fun q=>BE q.1
theorem qno (h:L.Pairwise (ltL ed)):L.Pairwise fun a b=>ed a<=ed b:=h.imp fun q=>q.elim Av fun q=>BE q.1
theorem qe4 (N:Nat)(p:Nat->Nat->Bool)(good:Nat->Bool):∀j,(afF N p good j).length<=j
  | 0=>Ak _
  | j+1=>by
    unfold afF;split
    . rw[(qg4 _ _ _).length_eq];exact CL (qe4 N p good j)
    . exact C4 (qe4 N p good j)
end
section
theorem qcb (hep:∀i,i<=ep i):∀(m j i:Nat),i∈qbo ep K m j->j<=i/\i<=K:=by
  intro m;induction m with
  | zero=>intro j i h;cases h
  | succ m ih=>
    intro j i h;unfold qbo at h;by_cases hj:j<=K
    . rw[if_pos hj] at h;rcases AS.mp h with rfl | h
      . exact ⟨Ak _,hj⟩
      . have:=ih _ _ h;exact ⟨Af (hep j) (Av this.1),this.2⟩
    . rw[if_neg hj] at h;cases h
theorem qho (N:Nat)(ed:Nat->Nat)(good:Nat->Bool):∀j,(dpF N ed good j).length<=j
  | 0=>Ak _
  | j+1=>by
    unfold dpF;split
    . exact CL (qho N ed good j)
    . exact C4 (qho N ed good j)
section
variable {M:Nat} {tp td:Nat->Bool}
theorem qqb (hep:∀i,i<=ep i)(htop:∀i,i<M->ep i<M):∀(f g k:Nat),k<M->M<=k+f->M<=k+g->DkF M N ep ed tp td f k=DkF M N ep ed tp td g k:=by
  intro f;induction f with
  | zero=>intro g k h1 h2;lia
  | succ f ih=>
    intro g k h1 h2 h3;cases g with
    | zero=>lia
    | succ g=>
      unfold DkF;rw[AN fun i hi=>ih g i (An (qcb hep _ _ _ hi).2 (htop k h1)) (by have:=(qcb hep _ _ _ hi).1;lia) (by have:=(qcb hep _ _ _ hi).1;lia)]
end
noncomputable def qlk (ep:Nat->Nat) (M:Nat):Nat->Nat->List Nat
  | 0,_=>[]
  | f+1,k=>(qbo ep (ep k) M (k+1)).flatMap (qlk ep M f) ++ [k]
theorem qkq {M:Nat}{an:Nat->Nat->Bool}(Tt:Tre M an ep):∀(f k x:Nat),k<M->x∈qlk ep M f k->k<=x/\x<=ep k:=by
  intro f;induction f with
  | zero=>intro k x _ h;cases h
  | succ f ih=>
    intro k x hk h;unfold qlk at h;rcases BW.mp h with h | h
    . obtain ⟨i,hi,hx⟩:=ED.mp h;have h1:=qcb Tt.ge _ _ _ hi;have hiM:=An h1.2 (Tt.top k hk);have h2:=ih i x hiM hx;exact ⟨Av (Ah h1.1 h2.1),Af h2.2 (Tt.nest h1.1 h1.2 hiM)⟩
    . rw[AL.mp h];exact ⟨Ak _,Tt.ge k⟩
theorem qmy {M:Nat}{an:Nat->Nat->Bool}(Tt:Tre M an ep):∀(f k x:Nat),k<M->M<=k+f->k<=x->x<=ep k->x∈qlk ep M f k:=by
  have kid:∀(K:Nat) (m i x:Nat),K<M->K<i+m->i<=x->x<=K->∃c∈qbo ep K m i,c<=x/\x<=ep c:=by
    intro K m;induction m with
    | zero=>intro i x _ h h1 h2;grind
    | succ m ih=>
      intro i x hK h h1 h2;unfold qbo;rw[if_pos (Af h1 h2)];rcases AT (ep i) x with q | q
      . obtain ⟨c,h3,h4⟩:=ih (ep i+1) x hK (by have:=Tt.ge i;lia) q h2;exact ⟨c,Az _ h3,h4⟩
      . exact ⟨i,Am,h1,q⟩
  intro f;induction f with
  | zero=>intro k x h1 h2;lia
  | succ f ih=>
    intro k x h1 h2 h3 h4;unfold qlk;rcases AF h3 with rfl | h3
    . exact Et _ (AL.mpr rfl)
    . obtain ⟨c,hc,q1,q2⟩:=kid (ep k) M (k+1) x (Tt.top k h1) (by have:=Tt.top k h1;lia) h3 h4;have hcm:=qcb Tt.ge _ _ _ hc;exact List.mem_append_left _ (ED.mpr ⟨c,hc,ih c x (An hcm.2 (Tt.top k h1)) (by lia) q1 q2⟩)
end
section
theorem qcn:∀{L M:List Nat},L.Pairwise (· < ·)->M.Pairwise (· < ·)->(∀x,x∈L↔x∈M)->L=M
  | [],[],_,_,_=>rfl
  | [],b::M,_,_,h=>nomatch (h b).mpr Am
  | a::L,[],_,_,h=>nomatch (h a).mp Am
  | a::L,b::M,hL,hM,h=>by
    rw[A6] at hL hM;have e:a=b:=by
      rcases AS.mp ((h a).mp Am) with q | q
      . exact q
      . rcases AS.mp ((h b).mpr Am) with w | w
        . exact w.symm
        . exact absurd (hM.1 a q) (F0 (hL.1 b w))
    subst e;rw[qcn hL.2 hM.2 fun x=>?_];constructor
    . intro q;rcases AS.mp ((h x).mp (Az _ q)) with w | w
      . exact absurd (hL.1 x q) (w ▸ BV _)
      . exact w
    . intro q;rcases AS.mp ((h x).mpr (Az _ q)) with w | w
      . exact absurd (hM.1 x q) (w ▸ BV _)
      . exact w
noncomputable abbrev qmh (L:List Nat):Nat:=(L.map fun x=>2 ^ x).sum
theorem qh6:∀(n:Nat) {L:List Nat},L.length=n->L.Pairwise (· < ·)->∀i,(qmh L).testBit i=L.contains i
  | 0,L,h,_,i=>by obtain rfl:=Dn h;exact FP i
  | n+1,L,h,hs,i=>by
    have hn:L≠[]:=fun e=>by rw[e] at h;cases h
    obtain ⟨M,p,rfl⟩:∃M p,L=M ++ [p]:=⟨_,_,(ES hn).symm⟩
    rw[Ao,BJ] at h;rw[BB] at hs;have ih:=qh6 n (Nat.succ.inj h) hs.1 i;have hlt:qmh M<2 ^ p:=qdl hs.1 fun x hx=>hs.2.2 x hx p (AL.mpr rfl)
    have e:qmh (M ++ [p])=2 ^ p+qmh M:=by unfold qmh;rw[A0,List.sum_append,Nat.add_comm];rfl
    rw[e];have hc:(M ++ [p]).contains i=(M.contains i||i==p):=by
      rw[D6,D3,Cn,Cn,BW,AL,beq_iff_eq]
    rw[hc,<- ih];rcases Ek i p with w | rfl | w
    . rw[Nat.testBit_two_pow_add_gt w,beq_false_of_ne (B9 w),Bool.or_false]
    . rw[Nat.testBit_two_pow_add_eq,Du hlt];simp
    . have h2:2 ^ p+qmh M<2 ^ i:=by
        have:=Cb (show 0<2 by decide) (FA w);rw[Dr] at this;lia
      rw[Du h2,Du (Bq hlt (Nat.pow_lt_pow_right (by decide) w)),beq_false_of_ne (C1 w)];rfl
noncomputable def qbk (m:Nat):List Nat:=(Ac 7).filter fun i=>m.testBit i
theorem qf7 (m:Nat):(qbk m).Pairwise (· < ·):=El.filter _
theorem bitsL_mem {m x:Nat}:x∈qbk m↔x<7/\m.testBit x=true:=by rw[qbk,CB,Bi]
theorem qom (h:L.Pairwise (· < ·))(h7:∀x∈L,x<7):qbk (qmh L)=L:=by
  refine qcn (qf7 _) h fun x=>?_
  rw[bitsL_mem,qh6 L.length rfl h,Cn];exact ⟨fun q=>q.2,fun q=>⟨h7 x q,q⟩⟩
theorem qni:∀m:Fin 128,0<(m:Nat)->(qbk m).head?=some ((qbk m).headD 0)/\(qbk m).headD 0<7:=by decide +kernel
section
variable {f g:Nat->Int}
noncomputable abbrev bP (g:Nat->Int) (k q:Nat):Bool:=q==k||anN g k q
theorem qld (hk:k<4):(Ac 4).filter (bP g k)=subL (qa6 4 g) k:=by
  have Tt:=qf1 4 g;refine qcn (El.filter _) Dg fun x=>?_
  have h1:=Tt.ge k;have h2:=Tt.top k hk;rw[CB,Bi,BN,D3,beq_iff_eq];constructor
  . rintro ⟨h,rfl | h3⟩
    . omega
    . have h4:=Tt.lt _ _ h3;have:=(Tt.ens k x h4 h).mp h3;omega
  . rintro ⟨h3,h4⟩
    refine ⟨by omega,?_⟩;rcases AF h3 with e | h5
    . exact .inl e.symm
    . exact .inr ((Tt.ens k x h5 (by omega)).mpr (by lia))
theorem qod (hk:k<4)(hq:q∈subL (qa6 4 g) k):((qab g q).length:Int) - ((qab g k).length:Nat)=(acL (anN g) (subL (qa6 4 g) k) q:Nat):=by
  have Tt:=qf1 4 g;have h2:=Tt.top k hk;have hq':=BN.mp hq;obtain ⟨R,e,hR⟩:∃R,qab g q=qab g k ++ R/\∀x∈R,k<=x:=by
    rcases AF hq'.1 with e | h
    . exact ⟨[],by rw[<- e,Bf],nofun⟩
    . have h3:=anN_iff.mp ((Tt.ens k q h (by omega)).mpr (by omega));obtain ⟨R,e⟩:=qfs h3;have hs:=qb2 g q;rw[<- e,AX] at hs;refine ⟨[k] ++ R,by rw[<- e,AX],fun x hx=>?_⟩;rcases AS.mp hx with rfl | hx
      . exact Ak _
      . exact Av ((A6.mp (BB.mp hs).2.1).1 x hx)
  have hf:(subL (qa6 4 g) k).filter (fun x=>anN g x q)=R:=by
    have hs:=qb2 g q;rw[e] at hs;refine qcn (List.Pairwise.filter _ Dg) (BB.mp hs).2.1 fun x=>?_
    rw[CB,BN,anN_iff,e,BW];constructor
    . rintro ⟨h3,h4 | h4⟩
      . exact absurd (qb0 h4) (by simp_all)
      . exact h4
    . intro h4;have h5:=qb0 (f:=g) (q:=q) (x:=x) (by rw[e];exact Et _ h4);exact ⟨⟨hR x h4,by lia⟩,.inr h4⟩
  unfold acL;rw[hf,e,Ao];lia
noncomputable def shM (f:Nat->Int) (m:Nat):List (Bool×Int):=(qbk m).map fun p=>(((f p).fdiv 7).fmod 2==1,((acL (anN f) (qbk m) p:Nat):Int))
noncomputable def shK (g:Nat->Int) (k:Nat):List (Bool×Int):=((Ac 4).filter (bP g k)).map fun q=>(((g q).fdiv 7).fmod 2==1,((qab g q).length:Int) - ((qab g k).length:Nat))
noncomputable abbrev tgT (f:Nat->Int) (p:Nat):Bool:=((f p).fdiv 7).fmod 2==1
theorem qqd {m:Nat}(hk:k<4):shM f m=shK g k↔qc9 (anN f) (tgT f) (qbk m)=qc9 (anN g) (tgT g) (subL (qa6 4 g) k):=by
  have c:∀{L M:List (Bool×Nat)},(L.map fun x=>(x.1,((x.2:Nat):Int)))=(M.map fun x=>(x.1,((x.2:Nat):Int)))↔L=M:=by
    intro L M;refine ⟨fun h=>?_,fun h=>h ▸ rfl⟩;refine List.map_inj_right (fun x y h=>?_) |>.mp h
    exact Prod.ext (EM h).1 (Int.ofNat.inj (EM h).2)
  rw[<- c];have e1:shM f m=(qc9 (anN f) (tgT f) (qbk m)).map fun x=>(x.1,((x.2:Nat):Int)):=by
    unfold shM qc9;rw[Bv];rfl
  have e2:shK g k=(qc9 (anN g) (tgT g) (subL (qa6 4 g) k)).map fun x=>(x.1,((x.2:Nat):Int)):=by
    unfold shK qc9;rw[Bv,qld hk];exact AN fun q hq=>Prod.ext rfl (qod hk hq)
  rw[e1,e2]
noncomputable def qej (f g:Nat->Int) (k:Nat):Nat->Nat
  | 0=>0
  | m+1=>if 0<m/\(qbk m).length<=4/\shM f m=shK g k then qej f g k m ||| 2 ^ (qbk m).headD 0 else qej f g k m
theorem qkh:∀n,(qej f g k n).testBit r=true↔∃m,m<n/\(0<m/\(qbk m).length<=4/\shM f m=shK g k)/\(qbk m).headD 0=r
  | 0=>⟨fun h=>(by rw[qej,FP] at h;cases h),fun ⟨m,h,_⟩=>absurd h (B8 m)⟩
  | n+1=>by
    have ih:(qej f g k n).testBit r=true↔_:=qkh n;unfold qej;split
    . rename_i h;rw[Nat.testBit_or,D3,ih,Nat.testBit_two_pow];constructor
      . rintro (⟨m,h1,h2⟩ | h1)
        . exact ⟨m,Cc h1,h2⟩
        . exact ⟨n,Bp n,h,by simpa using h1⟩
      . rintro ⟨m,h1,h2,h3⟩
        rcases Co (AH h1) with q | rfl
        . exact .inl ⟨m,q,h2,h3⟩
        . exact .inr (by simpa using h3)
    . rename_i h;rw[ih];constructor
      . rintro ⟨m,h1,h2⟩;exact ⟨m,Cc h1,h2⟩
      . rintro ⟨m,h1,h2,h3⟩
        rcases Co (AH h1) with q | rfl
        . exact ⟨m,q,h2,h3⟩
        . exact absurd h2 h
theorem qqv (hk:k<4):(qej f g k 128).testBit r=true↔Hit (anN g) (anN f) (qa6 4 g) (tgT g) (tgT f) 7 k r:=by
  rw[qkh,Idm (qf1 4 g) (qf1 7 f) hk];constructor
  . rintro ⟨m,h1,⟨h2,_,h3⟩,rfl⟩
    exact ⟨qbk m,qf7 m,fun x hx=>(bitsL_mem.mp hx).1,(qni ⟨m,h1⟩ h2).1,(qqd hk).mp h3⟩
  . rintro ⟨L,h1,h2,h3,h4⟩
    have e:=qom h1 h2;have hlt:qmh L<2 ^ 7:=qdl h1 h2;have hpos:0<qmh L:=by
      cases L with
      | nil=>cases h3
      | cons x L=>unfold qmh;rw[Bz,Cr];have:=Gr (n:=x) (show 0<2 by decide);omega
    have hlen:L.length<=4:=by
      have:=congrArg Fx h4;rw[qc9,qc9,Ab,Ab,Fd] at this;have:=(qf1 4 g).top k hk;omega
    refine ⟨qmh L,hlt,⟨hpos,by rw[e];exact hlen,(qqd hk).mpr (by rw[e];exact h4)⟩,?_⟩;rw[e,List.headD_eq_head?_getD,h3];rfl
end
end
section
inductive Own where
  | fz | loc (n:Nat) | aux (n:Nat) | other
structure Lam where
  params:EE
  body:Expr
  scope:Scope
inductive AV where
  | none
  | bool (b:Bool)
  | int (i:Int)
  | str (s:Str)
  | tup (l:List AV)
  | lst (l:List AV)
  | loc (n:Nat)
  | glob (v:Value)
  | bound (f:String) (self:AV)
  | clo (l:Lam) (names:List Str) (caps:List AV)
  | any
inductive AObj where
  | lst (items:List AV)
  | dstr (keys:List Str) (vals:List AV)
  | dint (keys:List Int) (vals:List AV)
  | fn0
  | elem (attrs:List Str) (vals:List AV)
  | iter (items:List AV)
  | iterDone
structure Wd where
  prog:Dq
  w:World
  s1:Al
  mg:Str->Option Value
  mb:Str->Option Value
  tab:Addr->Prop
  tabEx:∀a,tab a->s1.heap.get? a=some (Em #[])
  gNs:s1.heap.Ns Bk mg
  bNs:s1.heap.Ns Bm mb
  nolim:s1.heap.NoLimit
  gNT:¬tab Bk
  bNT:¬tab Bm
  cNT:¬tab cStatics
  sm:∃o,s1.heap.get? Cp=some o
noncomputable abbrev qay (v:Option Value):Obj:={ cls:=.type "cell",data:=.cell v }
noncomputable abbrev qaa (vs:Array Value) (n:Nat):Obj:={ cls:=.type "list",data:=.seq vs n }
noncomputable abbrev qkg (vs:Array Value) (n:Nat):Obj:={ cls:=.type "tuple",data:=.seq vs n }
noncomputable abbrev qol (f:String) (v:Value):Obj:={ cls:=.type "builtin_function_or_method",data:=.fields #[.builtin f,v] }
def CodeOk (W:Wd) (g:Addr->Own) (h:Heap) (v:Value):Prop:=
  ∃c o vs q t,v=.ref c/\g c=.other/\¬W.tab c/\h.get? c=some o/\o.cls=.type "code"/\o.data=.fields vs/\vs[1]?=some (.str q t)
structure qv8 (W:Wd) (g:Addr->Own) (h:Heap) (l:Lam) (f:Addr) (fd:BS):Prop where
  get:h.get? f=some { cls:=.type "function",data:=.func fd }
  params:fd.params=l.params
  body:fd.body=.expr l.body
  scope:fd.scope=l.scope
  glob:fd.globals=Bk
  blt:fd.builtins=Bm
  dflt:fd.defaults=.none
  kwd:fd.kwdefaults=.none
  code:CodeOk W g h fd.code
mutual
noncomputable def RV (W:Wd) (g:Addr->Own) (h:Heap):AV->Value->Prop
  | .none,v=>v=.none
  | .bool b,v=>v=.bool b
  | .int i,v=>∃t,v=.int i t
  | .str s,v=>∃t,v=.str s t
  | .tup l,v=>∃a vs n,v=.ref a/\g a=.fz/\h.get? a=some (qkg vs n)/\RVs W g h l vs.toList
  | .lst l,v=>∃a vs n,v=.ref a/\g a=.fz/\h.get? a=some (qaa vs n)/\RVs W g h l vs.toList
  | .loc n,v=>∃a,v=.ref a/\g a=.loc n
  | .glob w,v=>v=w
  | .bound f self,v=>∃a sv,v=.ref a/\g a=.fz/\h.get? a=some (qol f sv)/\RV W g h self sv
  | .clo l names caps,v=>∃(a:Addr) (fd:BS) (vs:List Value),v=.ref a/\g a=.fz/\qv8 W g h l a fd/\RVs W g h caps vs /\
      ∀(i:Nat) (x:Str),names[i]?=some x->∃(c:Addr) (u:Value),fd.closure.lookup x=some c/\g c=.fz/\vs[i]?=some u/\h.get? c=some (qay (some u))/\W.s1.heap.get? c=none
  | .any,_=>True
termination_by structural x=>x
noncomputable def RVs (W:Wd) (g:Addr->Own) (h:Heap):List AV->List Value->Prop
  | [],vs=>vs=[]
  | a::l,vs=>∃v r,vs=v::r/\RV W g h a v/\RVs W g h l r
termination_by structural x=>x
end
mutual
noncomputable def plain:AV->Bool
  | .tup l=>plains l
  | .lst l=>plains l
  | .bound _ s=>plain s
  | .clo ..=>false
  | _=>true
termination_by structural x=>x
noncomputable def plains:List AV->Bool
  | []=>true
  | a::l=>plain a&&plains l
termination_by structural x=>x
end
noncomputable def RO (W:Wd) (g:Addr->Own) (h:Heap) (a:Addr) (n:Nat):AObj->Prop
  | .lst items=>∃vs k,h.get? a=some (qaa vs k)/\RVs W g h items vs.toList
  | .dstr keys vals=>∃vs,h.DictOf (PySem.strKind W.prog W.w) a (keys.zip vs)/\keys.length=vs.length/\RVs W g h vals vs
  | .dint keys vals=>∃vs,h.DictOf (PySem.intKind W.prog W.w) a (keys.zip vs)/\keys.length=vs.length/\RVs W g h vals vs
  | .fn0=>∃fd,h.get? a=some { cls:=.type "function",data:=.func fd }
  | .elem attrs vals=>∃fd d mh vs,h.get? a=some { cls:=.type "function",dict:=some d,data:=.func fd }/\g d=.aux n/\h.Ns1 d mh/\RVs W g h vals vs /\
      (∀x,mh x=(attrs.zip vs).lookup x)/\attrs.length=vs.length
  | .iter items=>∃(la:Addr) (i:Nat) (vs:Array Value) (k:Nat),h.IsListIter a la i/\g la=.fz/\h.get? la=some (qaa vs k)/\RVs W g h items (vs.toList.drop i)
  | .iterDone=>True
def qqs (W:Wd) (g:Addr->Own) (h:Heap) (P:Addr):Prop:=
  ∃more,h.get? P=some (Em more)/\TriplesOk more.toList/\∀pos v,EF pos more.toList=some v->CodeOk W g h v
noncomputable def qdb:AObj->Bool
  | .lst l=>plains l
  | .dstr _ l=>plains l
  | .dint _ l=>plains l
  | .elem _ l=>plains l
  | .iter l=>plains l
  | _=>true
structure Rep (W:Wd) (fr:List Env) (g:Addr->Own) (σ:List AObj) (s:Al):Prop where
  base:∀a o,W.s1.heap.get? a=some o->¬W.tab a->s.heap.get? a=some o
  baseO:∀a o,W.s1.heap.get? a=some o->g a=.other\/g a=.fz
  tabO:∀a,W.tab a->g a=.other
  tabs:∀a,W.tab a->qqs W g s.heap a
  low:∀a,g a≠.other->∃o,s.heap.get? a=some o
  locs:∀n ao,σ[n]?=some ao->∃a,g a=.loc n/\RO W g s.heap a n ao
  uniq:∀a b n,g a=.loc n->g b=.loc n->a=b
  pl:∀(n:Nat) (ao:AObj),σ[n]?=some ao->qdb ao=true
  bnd:∀a n,(g a=.loc n\/g a=.aux n)->n<σ.length
  frs:∀e∈fr,∃f o es ep,e.frame=some f/\s.heap.get? f=some o/\o.data=.dict es ep/\g f=.other/\o.cls=.type "frame"/\W.s1.heap.get? f=none/\e.scope.kind≠.module
  gens:s.gens=#[]
  os:s.os=W.s1.os
def KeptO (o:Obj) (r:Option Obj):Prop:=
  (o.cls≠.type "frame"/\r=some o)\/(o.cls=.type "frame"/\∃sl,r=some { o with slots:=sl })
theorem KeptO.of {r:Option Obj}(h:r=some o):KeptO o r:=by
  by_cases hc:o.cls=.type "frame"
  . exact .inr ⟨hc,o.slots,h⟩
  . exact .inl ⟨hc,h⟩
theorem KeptO.get {r:Option Obj}(k:KeptO o r)(hc:o.cls≠.type "frame":=by simp):r=some o:=k.elim And.right fun q=>absurd q.1 hc
theorem KeptO.ex {r:Option Obj}(k:KeptO o r):∃o',r=some o'/\o'.data=o.data/\o'.cls=o.cls:=by
  rcases k with ⟨_,q⟩ | ⟨_,sl,q⟩
  . exact ⟨o,q,rfl,rfl⟩
  . exact ⟨_,q,rfl,rfl⟩
structure Evo (W:Wd) (X:Addr->Prop) (Y:Nat->Prop) (g:Addr->Own) (h:Heap) (g':Addr->Own) (h':Heap):Prop where
  keep:∀a o,h.get? a=some o->¬X a->(g a=.fz\/(g a=.other/\¬W.tab a))->KeptO o (h'.get? a)
  keepL:∀a o n,h.get? a=some o->(g a=.loc n\/g a=.aux n)->¬Y n->h'.get? a=some o
  fz:∀a,g a=.fz->¬X a->g' a=.fz
  loc:∀a n,g a=.loc n->g' a=.loc n
  aux:∀a n,g a=.aux n->g' a=.aux n
  oth:∀a o,h.get? a=some o->g a=.other->¬X a->g' a=.other\/(g' a=.fz/\∃v,h'.get? a=some (qay v))
  tabs:∀a o,W.tab a->h.get? a=some o->∃o',h'.get? a=some o'
noncomputable abbrev noX:Addr->Prop:=fun _=>False
noncomputable abbrev noY:Nat->Prop:=fun _=>False
theorem Evo.refl {W:Wd}{X:Addr->Prop}{g:Addr->Own}:Evo W X Y g h g h:=
  ⟨fun _ _ e _ _=>.of e,fun _ _ _ e _ _=>e,fun _ e _=>e,fun _ _ e=>e,fun _ _ e=>e,fun _ _ _ e _=>.inl e,fun _ o _ e=>⟨o,e⟩⟩
theorem Evo.trans {W:Wd}{X:Addr->Prop}{g g' g'':Addr->Own}{h'':Heap}(e:Evo W X Y g h g' h')(f:Evo W X Y g' h' g'' h''):Evo W X Y g h g'' h'' where
  keep:=fun a o ho hx hg=>by
    have hg':g' a=.fz\/(g' a=.other/\¬W.tab a):=by
      rcases hg with hg | ⟨hg,hn⟩
      . exact .inl (e.fz a hg hx)
      . rcases e.oth a o ho hg hx with q | q
        . exact .inr ⟨q,hn⟩
        . exact .inl q.1
    rcases e.keep a o ho hx hg with ⟨hc,h1⟩ | ⟨hc,sl,h1⟩
    . exact f.keep a o h1 hx hg'
    . rcases f.keep a _ h1 hx hg' with ⟨hc',_⟩ | ⟨_,sl',h2⟩
      . exact absurd hc hc'
      . exact .inr ⟨hc,sl',h2⟩
  keepL:=fun a o n ho hg hy=>f.keepL a o n (e.keepL a o n ho hg hy) (hg.imp (e.loc a n) (e.aux a n)) hy
  fz:=fun a hg hx=>f.fz a (e.fz a hg hx) hx
  loc:=fun a n hg=>f.loc a n (e.loc a n hg)
  aux:=fun a n hg=>f.aux a n (e.aux a n hg)
  oth:=fun a o ho hg hx=>by
    rcases e.oth a o ho hg hx with q | ⟨q,v,hv⟩
    . by_cases ht:W.tab a
      . refine Aq (e.tabs a o ht ho) ?_;intro o' ho';exact f.oth a o' ho' q hx
      . refine qa5 ((e.keep a o ho hx (.inr ⟨hg,ht⟩)).ex) ?_;intro o' ho' _;exact f.oth a o' ho' q hx
    . exact .inr ⟨f.fz a q hx,v,(f.keep a _ hv hx (.inl q)).get⟩
  tabs:=fun a o ht ho=>by refine Aq (e.tabs a o ht ho) ?_;intro o' ho';exact f.tabs a o' ht ho'
theorem Evo.weak {W:Wd}{X X':Addr->Prop}{Y':Nat->Prop}{g g':Addr->Own}(e:Evo W X Y g h g' h')(hl:∀a,g a≠.other->∃o,h.get? a=some o)(hX:∀a o,h.get? a=some o->X a->X' a)(hY:∀n,Y n->Y' n):Evo W X' Y' g h g' h' where
  keep:=fun a o ho hx hg=>e.keep a o ho (fun q=>hx (hX a o ho q)) hg
  keepL:=fun a o n ho hg hy=>e.keepL a o n ho hg fun q=>hy (hY n q)
  fz:=fun a hg hx=>e.fz a hg fun q=>by
    refine Aq (hl a (by rw[hg];nofun)) ?_;intro o ho;exact hx (hX a o ho q)
  loc:=e.loc
  aux:=e.aux
  oth:=fun a o ho hg hx=>e.oth a o ho hg (fun q=>hx (hX a o ho q))
  tabs:=e.tabs
def XOk (X:Addr->Prop) (g:Addr->Own) (h:Heap):Prop:=
  ∀a,X a->(g a=.other\/(g a=.fz/\∃u,h.get? a=some (qay u)))/\∀o vs,h.get? a=some o->o.data=.fields vs->o.cls≠.type "code"
theorem XOk.no {g:Addr->Own}{h:Heap}:XOk noX g h:=fun _ h=>h.elim
theorem CodeOk.mono {W:Wd}{X:Addr->Prop}{g g':Addr->Own}{v:Value}(e:Evo W X Y g h g' h')(hX:XOk X g h)(c:CodeOk W g h v):CodeOk W g' h' v:=by
  refine qe7 (c) ?_;(try clear c);intro c o vs q t eq_4_5 hg ht ho hc hd hv;subst eq_4_5;have hx:¬X c:=fun hx=>(hX c hx).2 o vs ho hd hc
  have ho':=(e.keep c o ho hx (.inr ⟨hg,ht⟩)).get (by rw[hc];simp);refine ⟨c,o,vs,q,t,rfl,?_,ht,ho',hc,hd,hv⟩;rcases e.oth c o ho hg hx with r | ⟨_,u,r⟩
  . exact r
  . rw[ho'] at r;obtain rfl:=Sj r;cases hd
section
variable {W:Wd} {X:Addr->Prop} {g g':Addr->Own}
theorem XOk.not (hX:XOk X g h)(hg:g a=.fz)(ho:h.get? a=some o)(hc:o.cls≠.type "cell"):¬X a:=fun hx=>by
  rcases (hX a hx).1 with q | ⟨_,u,q⟩
  . rw[hg] at q;cases q
  . rw[ho] at q;obtain rfl:=Sj q;exact hc rfl
mutual
theorem RV.mono (e:Evo W X Y g h g' h')(hX:XOk X g h):
    (av:AV)->((∀a,X a->g a=.other)\/plain av=true)->(v:Value)->RV W g h av v->RV W g' h' av v
  | .none,_,v,r=>(r:v=.none)
  | .bool b,_,v,r=>(r:v=.bool b)
  | .int i,_,v,r=>(r:∃t,v=.int i t)
  | .str s,_,v,r=>(r:∃t,v=.str s t)
  | .tup l,hp,v,r=>by
    refine qa2 (r) ?_;intro a vs n eq_5_3 hg ho hr;subst eq_5_3;have hx:¬X a:=hX.not hg ho (fun q=>by simp at q);exact ⟨a,vs,n,rfl,e.fz a hg hx,(e.keep a _ ho hx (.inl hg)).get,RVs.mono e hX l hp _ hr⟩
  | .lst l,hp,v,r=>by
    refine qa2 (r) ?_;intro a vs n eq_6_3 hg ho hr;subst eq_6_3;have hx:¬X a:=hX.not hg ho (fun q=>by simp at q);exact ⟨a,vs,n,rfl,e.fz a hg hx,(e.keep a _ ho hx (.inl hg)).get,RVs.mono e hX l hp _ hr⟩
  | .loc n,_,v,r=>by
    refine qa5 (r) ?_;intro a eq_7_1 hg;subst eq_7_1;exact ⟨a,rfl,e.loc a n hg⟩
  | .glob w,_,v,r=>(r:v=w)
  | .bound f s,hp,v,r=>by
    refine qb3 (r) ?_;intro a sv eq_8_2 hg ho hr;subst eq_8_2;have hx:¬X a:=hX.not hg ho (fun q=>by simp at q);exact ⟨a,sv,rfl,e.fz a hg hx,(e.keep a _ ho hx (.inl hg)).get,RV.mono e hX s hp _ hr⟩
  | .clo l names caps,hp,v,r=>by
    have hx:∀a,X a->g a=.other:=hp.resolve_right fun q=>nomatch q
    have hn:∀{a},g a=.fz->¬X a:=fun hg q=>by rw[hx _ q] at hg;cases hg
    refine qe8 (r) ?_;intro a fd vs eq_9_3 hg hc hr hn';subst eq_9_3;refine ⟨a,fd,vs,rfl,e.fz a hg (hn hg),⟨(e.keep a _ hc.get (hn hg) (.inl hg)).get,hc.params,hc.body,hc.scope,hc.glob,hc.blt,hc.dflt,hc.kwd,hc.code.mono e hX⟩,RVs.mono e hX caps (.inl hx) _ hr,fun i x hi=>?_⟩;refine qap (hn' i x hi) ?_;intro c u h1 h2 h3 h4 h5;exact ⟨c,u,h1,e.fz c h2 (hn h2),h3,(e.keep c _ h4 (hn h2) (.inl h2)).get,h5⟩
  | .any,_,_,_=>(Bb:True)
termination_by structural x=>x
theorem RVs.mono (e:Evo W X Y g h g' h')(hX:XOk X g h):
    (l:List AV)->((∀a,X a->g a=.other)\/plains l=true)->(vs:List Value)->RVs W g h l vs->RVs W g' h' l vs
  | [],_,vs,r=>(r:vs=[])
  | a::l,hp,vs,r=>by
    refine qa1 (r) ?_;intro v q eq_11_2 h1 h2;subst eq_11_2;have hp1:(∀a,X a->g a=.other)\/plain a=true:=hp.imp id fun q=>(AJ.mp q).1
    have hp2:(∀a,X a->g a=.other)\/plains l=true:=hp.imp id fun q=>(AJ.mp q).2
    exact ⟨v,q,rfl,RV.mono e hX a hp1 _ h1,RVs.mono e hX l hp2 _ h2⟩
termination_by structural x=>x
end
theorem RVs.length:∀{l:List AV} {vs:List Value},RVs W g h l vs->vs.length=l.length
  | [],vs,r=>by obtain rfl:vs=[]:=r;rfl
  | a::l,vs,r=>by refine qa1 (r) ?_;intro v q eq_12_2 _ h2;subst eq_12_2;rw[BY,BY,RVs.length h2]
theorem RVs.get:∀{l:List AV} {vs:List Value},RVs W g h l vs->∀{i:Nat} {v:Value},vs[i]?=some v->∃a,l[i]?=some a/\RV W g h a v
  | [],vs,r,i,v,e=>by obtain rfl:vs=[]:=r;simp at e
  | a::l,vs,r,i,v,e=>by
    refine qa1 (r) ?_;intro u q eq_13_2 h1 h2;subst eq_13_2;cases i with
    | zero=>simp at e;exact ⟨a,rfl,e ▸ h1⟩
    | succ i=>simp at e;refine qa5 (RVs.get h2 e) ?_;intro b hb hr;exact ⟨b,by simpa using hb,hr⟩
theorem RVs.getA {l:List AV}{vs:List Value}(r:RVs W g h l vs){a:AV}(e:l[i]?=some a):∃v,vs[i]?=some v/\RV W g h a v:=by
  have hi:i<l.length:=(Ap.mp e).1;have hj:i<vs.length:=by rw[r.length];exact hi
  refine qa5 (r.get (Ad hj)) ?_;intro b hb hr;rw[e] at hb;obtain rfl:=Sj hb;exact ⟨_,Ad hj,hr⟩
theorem RVs.append:∀{l:List AV} {vs:List Value},RVs W g h l vs->∀{l':List AV} {vs':List Value},RVs W g h l' vs'->RVs W g h (l++l') (vs++vs')
  | [],vs,r,_,_,r'=>by obtain rfl:vs=[]:=r;exact r'
  | a::l,vs,r,_,_,r'=>by refine qa1 (r) ?_;intro v q eq_16_2 h1 h2;subst eq_16_2;exact ⟨v,_,rfl,h1,h2.append r'⟩
theorem RVs.drop:∀{l:List AV} {vs:List Value},RVs W g h l vs->∀k,RVs W g h (l.drop k) (vs.drop k)
  | _,_,r,0=>r
  | [],vs,r,k+1=>by obtain rfl:vs=[]:=r;exact (rfl:([]:List Value)=[])
  | a::l,vs,r,k+1=>by refine qa1 (r) ?_;intro v q eq_17_2 h1 h2;subst eq_17_2;exact h2.drop k
theorem RVs.take:∀{l:List AV} {vs:List Value},RVs W g h l vs->∀k,RVs W g h (l.take k) (vs.take k)
  | _,_,_,0=>(rfl:([]:List Value)=[])
  | [],vs,r,k+1=>by obtain rfl:vs=[]:=r;exact (rfl:([]:List Value)=[])
  | a::l,vs,r,k+1=>by refine qa1 (r) ?_;intro v q eq_18_2 h1 h2;subst eq_18_2;exact ⟨v,_,rfl,h1,h2.take k⟩
end
noncomputable def qc6 (g:Addr->Own) (a:Addr) (o:Own):Addr->Own:=fun b=>if b=a then o else g b
theorem qa4 {g:Addr->Own}{o:Own}:qc6 g a o a=o:=if_pos rfl
theorem qa9 {g:Addr->Own}{b:Addr}{o:Own}(h:b≠a):qc6 g a o b=g b:=if_neg h
section
variable {W:Wd} {g:Addr->Own} {σ:List AObj}
theorem RO.mono {X:Addr->Prop}{g g':Addr->Own}(e:Evo W X Y g h g' h')(hX:XOk X g h)(hk:∀o,h.get? a=some o->h'.get? a=some o)(hk2:∀d,g d=.aux n->∀o,h.get? d=some o->h'.get? d=some o):
    (ao:AObj)->qdb ao=true->RO W g h a n ao->RO W g' h' a n ao
  | .lst items,hp,r=>by refine qcr (r) ?_;intro vs k ho hr;exact ⟨vs,k,hk _ ho,hr.mono e hX items (.inr hp) _⟩
  | .dstr keys vals,hp,r=>by
    refine qaj (r) ?_;intro vs hd hl hr;refine ⟨vs,?_,hl,hr.mono e hX vals (.inr hp) _⟩;rw[Ci] at hd ⊢;refine qa5 (hd) ?_;intro o ho q;exact ⟨o,hk _ ho,q⟩
  | .dint keys vals,hp,r=>by
    refine qaj (r) ?_;intro vs hd hl hr;refine ⟨vs,?_,hl,hr.mono e hX vals (.inr hp) _⟩;rw[Ci] at hd ⊢;refine qa5 (hd) ?_;intro o ho q;exact ⟨o,hk _ ho,q⟩
  | .fn0,hp,r=>by refine Aq r ?_;intro fd ho;exact ⟨fd,hk _ ho⟩
  | .elem attrs vals,hp,r=>by
    refine qat (r) ?_;intro fd d mh vs ho hd hn hr hm hl;refine ⟨fd,d,mh,vs,hk _ ho,e.aux d n hd,?_,hr.mono e hX vals (.inr hp) _,hm,hl⟩;refine qbw (hn) ?_;intro o es ep q r;exact ⟨o,es,ep,hk2 d hd o q,r⟩
  | .iter items,hp,r=>by
    refine qcq (r) ?_;intro la i vs k ne_28_4 hgl hl hr;refine qaj ne_28_4 ?_;intro o ho hc hd;have hx:¬X la:=hX.not hgl hl (fun q=>by simp at q);exact ⟨la,i,vs,k,⟨o,hk _ ho,hc,hd⟩,e.fz la hgl hx,(e.keep la _ hl hx (.inl hgl)).get,hr.mono e hX items (.inr hp) _⟩
  | .iterDone,hp,r=>(Bb:True)
theorem Rep.turn (R:Rep W fr g σ s){g':Addr->Own}(tk:Nat)(C:Addr->Prop)(hC:XOk C g s.heap)(hC1:∀a,C a->W.s1.heap.get? a=none)(hg:∀a,¬C a->g' a=g a)(hg':∀a,C a->g' a=.other)(hk:∀a o,s.heap.get? a=some o->¬C a->h'.get? a=some o)(hfr:∀a o es n,C a->s.heap.get? a=some o->o.data=.dict es n->∃o' es' n',h'.get? a=some o'/\o'.data=.dict es' n'/\o'.cls=o.cls):
    Rep W fr g' σ { s with heap:=h',toks:=tk }/\Evo W C noY g s.heap g' h':=by
  have hnt:∀a,W.tab a->¬C a:=fun a ht hc=>by have:=hC1 a hc;rw[W.tabEx a ht] at this;cases this
  have hnb:∀a o,W.s1.heap.get? a=some o->¬C a:=fun a o ho hc=>by rw[hC1 a hc] at ho;cases ho
  have hnL:∀a n,(g a=.loc n\/g a=.aux n)->¬C a:=fun a n hq hc=>by
    rcases (hC a hc).1 with q | ⟨q,_⟩ <;> rcases hq with r | r <;> (rw[q] at r;cases r)
  have hLg:∀a n,g' a=.loc n->g a=.loc n:=fun a n q=>by
    by_cases hc:C a
    . rw[hg' a hc] at q;cases q
    . rw[<- hg a hc];exact q
  have hAg:∀a n,g' a=.aux n->g a=.aux n:=fun a n q=>by
    by_cases hc:C a
    . rw[hg' a hc] at q;cases q
    . rw[<- hg a hc];exact q
  have e:Evo W C noY g s.heap g' h':=⟨fun a o ho hx _=>.of (hk a o ho hx),fun a o n ho hq _=>hk a o ho (hnL a n hq),fun a q hx=>by rw[hg a hx];exact q,fun a n q=>by rw[hg a (hnL a n (.inl q))];exact q,
    fun a n q=>by rw[hg a (hnL a n (.inr q))];exact q,fun a o ho q hx=>.inl (by rw[hg a hx];exact q),fun a o ht ho=>⟨o,hk a o ho (hnt a ht)⟩⟩
  refine ⟨⟨fun a o ho ht=>hk a o (R.base a o ho ht) (hnb a o ho),fun a o ho=>by rw[hg a (hnb a o ho)];exact R.baseO a o ho,
    fun a ht=>by rw[hg a (hnt a ht)];exact R.tabO a ht,fun a ht=>?_,
    fun a ha=>?_,fun n ao ho=>?_,fun a b n qa qb=>R.uniq a b n (hLg a n qa) (hLg b n qb),R.pl,fun a n q=>R.bnd a n (q.imp (hLg a n) (hAg a n)),fun en he=>?_,R.gens,R.os⟩,e⟩
  . refine qaj (R.tabs a ht) ?_;intro more h2 h3 h4;exact ⟨more,hk a _ h2 (hnt a ht),h3,fun pos v q=>(h4 pos v q).mono e hC⟩
  . by_cases hc:C a
    . exact absurd (hg' a hc) ha
    . refine Aq (R.low a (by rw[<- hg a hc];exact ha)) ?_;intro o ho;exact ⟨o,hk a o ho hc⟩
  . refine qa5 (R.locs n ao ho) ?_;intro a qa hr;exact ⟨a,e.loc a n qa,hr.mono e hC (fun o q=>hk a o q (hnL a n (.inl qa))) (fun d hd o q=>hk d o q (hnL d n (.inr hd))) ao (R.pl n ao ho)⟩
  . refine qat (R.frs en he) ?_;intro f o es ep h1 h2 h3 h4 h7 h8;by_cases hc:C f
    . refine qar (hfr f o es ep hc h2 h3) ?_;intro o' es' n' h5 h6 h9;exact ⟨f,o',es',n',h1,h5,h6,hg' f hc,h9.trans h7,h8⟩
    . exact ⟨f,o,es,ep,h1,hk f o h2 hc,h3,by rw[hg f hc];exact h4,h7,h8⟩
theorem Rep.slots (R:Rep W fr g σ s)(tk:Nat)(D:Addr->Prop)(hD:∀a,D a->∃e∈fr,e.frame=some a)(hk:∀a o,s.heap.get? a=some o->¬D a->h'.get? a=some o)(hs:∀a o,D a->s.heap.get? a=some o->∃sl,h'.get? a=some { o with slots:=sl }):
    Rep W fr g σ { s with heap:=h',toks:=tk }/\Evo W noX noY g s.heap g h':=by
  have hD':∀a,D a->∃o es ep,s.heap.get? a=some o/\o.data=.dict es ep/\g a=.other/\o.cls=.type "frame"/\W.s1.heap.get? a=none:=fun a ha=>by
    refine qa5 (hD a ha) ?_;intro e he hf;refine qat (R.frs e he) ?_;intro f o es ep h1 h2 h3 h4 h5 h6;rw[hf] at h1;obtain rfl:=Sj h1;exact ⟨o,es,ep,h2,h3,h4,h5,h6.1⟩
  have hnO:∀a,g a≠.other->¬D a:=fun a q hc=>by refine qa2 (hD' a hc) ?_;intro o es ep _ _ h4 _;exact q h4
  have hnb:∀a o,W.s1.heap.get? a=some o->¬D a:=fun a o ho hc=>by refine qe8 (hD' a hc) ?_;intro _ es ep _ _ _ _ h6;rw[h6] at ho;cases ho
  have hnL:∀a n,(g a=.loc n\/g a=.aux n)->¬D a:=fun a n hq=>hnO a (by rcases hq with q | q <;> rw[q] <;> exact nofun)
  have hkp:∀a o,s.heap.get? a=some o->KeptO o (h'.get? a):=fun a o ho=>by
    by_cases hc:D a
    . refine qe8 (hD' a hc) ?_;intro o' es ep h2 _ _ h5 _;rw[ho] at h2;obtain rfl:=Sj h2;exact .inr ⟨h5,hs a o hc ho⟩
    . exact .of (hk a o ho hc)
  have hnt:∀a,W.tab a->¬D a:=fun a ht=>hnb a _ (W.tabEx a ht)
  have e:Evo W noX noY g s.heap g h':=⟨fun a o ho _ _=>hkp a o ho,fun a o n ho hq _=>hk a o ho (hnL a n hq),fun a q _=>q,fun a n q=>q,fun a n q=>q,fun a o ho q _=>.inl q,fun a o ht ho=>⟨o,hk a o ho (hnt a ht)⟩⟩
  have hC:XOk noX g s.heap:=XOk.no;refine ⟨⟨fun a o ho ht=>hk a o (R.base a o ho ht) (hnb a o ho),R.baseO,R.tabO,fun a ht=>?_,
    fun a ha=>?_,fun n ao ho=>?_,R.uniq,R.pl,R.bnd,fun en he=>?_,R.gens,R.os⟩,e⟩
  . refine qaj (R.tabs a ht) ?_;intro more h2 h3 h4;exact ⟨more,hk a _ h2 (hnt a ht),h3,fun pos v q=>(h4 pos v q).mono e hC⟩
  . obtain ⟨o,ho⟩:=R.low a ha;exact ⟨o,hk a o ho (hnO a ha)⟩
  . refine qa5 (R.locs n ao ho) ?_;intro a qa hr;exact ⟨a,qa,hr.mono e hC (fun o q=>hk a o q (hnL a n (.inl qa))) (fun d hd o q=>hk d o q (hnL d n (.inr hd))) ao (R.pl n ao ho)⟩
  . refine qat (R.frs en he) ?_;intro f o es ep h1 h2 h3 h4 h7 h8;refine qaj ((hkp f o h2).ex) ?_;intro o' h5 h6 h9;exact ⟨f,o',es,ep,h1,h5,h6.trans h3,h4,h9.trans h7,h8⟩
theorem Rep.keeps (R:Rep W fr g σ s)(tk:Nat)(hk:∀a o,s.heap.get? a=some o->h'.get? a=some o):
    Rep W fr g σ { s with heap:=h',toks:=tk }/\Evo W noX noY g s.heap g h':=
  R.turn tk noX XOk.no (fun _ h=>h.elim) (fun _ _=>rfl) (fun _ h=>h.elim) (fun a o ho _=>hk a o ho) (fun _ _ _ _ h=>h.elim)
theorem Rep.tok (R:Rep W fr g σ s)(tk:Nat):Rep W fr g σ { s with toks:=tk }:=
  (R.keeps (h':=s.heap) tk fun _ _ h=>h).1
theorem qai (h:Heap):h.get? h.objs.size=none:=Cw (Ak _)
theorem Rep.top (R:Rep W fr g σ s):g s.heap.objs.size=.other:=CU fun q=>by
  refine Aq (R.low _ q) ?_;intro o ho;rw[qai] at ho;cases ho
theorem qgr (ho:h.get? a=some o):a≠h.objs.size:=B9 (F8 ho)
theorem Rep.pushEvo (R:Rep W fr g σ s)(o:Obj)(w:Own):Evo W noX Y g s.heap (qc6 g s.heap.objs.size w) (s.heap.push o):=by
  have hin:∀{a:Addr},g a≠.other->qc6 g s.heap.objs.size w a=g a:=fun {a} hg=>by refine Aq (R.low a hg) ?_;intro o ho;exact qa9 (qgr ho)
  exact ⟨fun a o' ho _ _=>.of (Au _ ho),fun a o' _ ho _ _=>Au _ ho,fun a hg _=>by rw[hin (by rw[hg];nofun)];exact hg,fun a n hg=>by rw[hin (by rw[hg];nofun)];exact hg,
      fun a n hg=>by rw[hin (by rw[hg];nofun)];exact hg,fun a o' ho hg _=>.inl (by rw[qa9 (qgr ho)];exact hg),fun a o' _ ho=>⟨o',Au _ ho⟩⟩
theorem Rep.pushG (R:Rep W fr g σ s)(o:Obj)(w:Own)(hf:o.isFreed=false){z':List AObj}(hw:(z'=σ/\(w=.fz\/w=.other))\/∃ao,z'=σ++[ao]/\w=.loc σ.length/\qdb ao=true/\RO W (qc6 g s.heap.objs.size w) (s.heap.push o) s.heap.objs.size σ.length ao):
    Rep W fr (qc6 g s.heap.objs.size w) z' { s with heap:=s.heap.push o }:=by
  have e:Evo W noX noY g s.heap (qc6 g s.heap.objs.size w) (s.heap.push o):=R.pushEvo o w;have hX:XOk noX g s.heap:=XOk.no;have hn:∀{a:Addr} {o':Obj},s.heap.get? a=some o'->qc6 g s.heap.objs.size w a=g a:=fun ho=>qa9 (qgr ho)
  have hwl:∀a n,qc6 g s.heap.objs.size w a=.loc n->(a=s.heap.objs.size/\n=σ.length/\z'.length=σ.length+1)\/g a=.loc n:=fun a n hg=>by
    by_cases ha:a=s.heap.objs.size
    . subst ha;rw[qa4] at hg;rcases hw with ⟨_,q | q⟩ | ⟨ao,q1,q,_⟩ <;> rw[q] at hg
      . cases hg
      . cases hg
      . injection hg with hg;exact .inl ⟨rfl,hg.symm,by rw[q1,Ao];rfl⟩
    . rw[qa9 ha] at hg;exact .inr hg
  have hwa:∀a n,qc6 g s.heap.objs.size w a=.aux n->g a=.aux n:=fun a n hg=>by
    by_cases ha:a=s.heap.objs.size
    . subst ha;rw[qa4] at hg;rcases hw with ⟨_,q | q⟩ | ⟨ao,_,q,_⟩ <;> rw[q] at hg <;> cases hg
    . rw[qa9 ha] at hg;exact hg
  have hsl:σ.length<=z'.length:=by rcases hw with ⟨q,_⟩ | ⟨ao,q,_⟩ <;> rw[q] <;> simp
  have old:∀(n:Nat) (ao:AObj),σ[n]?=some ao->∃a,qc6 g s.heap.objs.size w a=.loc n/\RO W (qc6 g s.heap.objs.size w) (s.heap.push o) a n ao:=fun n ao ho=>by
    refine qa5 (R.locs n ao ho) ?_;intro a hg hr;exact ⟨a,e.loc a n hg,hr.mono e hX (fun o q=>Au _ q) (fun d hd o q=>Au _ q) ao (R.pl n ao ho)⟩
  have split:∀(n:Nat) (ao:AObj),z'[n]?=some ao->σ[n]?=some ao\/(n=σ.length/\w=.loc σ.length/\qdb ao=true/\RO W (qc6 g s.heap.objs.size w) (s.heap.push o) s.heap.objs.size σ.length ao):=fun n ao ho=>by
    rcases hw with ⟨q,_⟩ | ⟨ao',q,q1,q2,q3⟩
    . rw[q] at ho;exact .inl ho
    . rw[q] at ho;by_cases hn:n<σ.length
      . rw[BC hn] at ho;exact .inl ho
      . rw[CQ (Nat.le_of_not_lt hn)] at ho;have hn':n - σ.length=0:=by
          have:=(Ap.mp ho).1;simp at this;assumption
        rw[hn'] at ho;obtain rfl:=Sj ho;exact .inr ⟨by grind,q1,q2,q3⟩
  refine ⟨fun a o' ho ht=>Au _ (R.base a o' ho ht),fun a o' ho=>?_,
    fun a ht=>?_,fun a ht=>?_,fun a ha=>?_,fun n ao ho=>?_,
    fun a b n ha hb=>?_,fun n ao ho=>?_,fun a n hg=>?_,fun en he=>?_,R.gens,R.os⟩
  . by_cases ht:W.tab a
    . refine qa5 (R.tabs a ht) ?_;intro more h2 _;rw[hn h2];exact R.baseO a o' ho
    . rw[hn (R.base a o' ho ht)];exact R.baseO a o' ho
  . refine qa5 (R.tabs a ht) ?_;intro more h2 _;rw[hn h2];exact R.tabO a ht
  . refine qaj (R.tabs a ht) ?_;intro more h2 h3 h4;exact ⟨more,Au _ h2,h3,fun pos v q=>(h4 pos v q).mono e hX⟩
  . by_cases hq:a=s.heap.objs.size
    . subst hq;exact ⟨o,Ar _ hf⟩
    . rw[qa9 hq] at ha;obtain ⟨o',ho'⟩:=R.low a ha;exact ⟨o',Au _ ho'⟩
  . rcases split n ao ho with q | ⟨rfl,q1,q2,q3⟩
    . exact old n ao q
    . exact ⟨_,by rw[qa4];exact q1,q3⟩
  . rcases hwl a n ha with ⟨qa,qn,_⟩ | qa <;> rcases hwl b n hb with ⟨qb,rn,_⟩ | qb
    . rw[qa,qb]
    . have:=R.bnd b n (.inl qb);simp_all
    . have:=R.bnd a n (.inl qa);simp_all
    . exact R.uniq a b n qa qb
  . rcases split n ao ho with q | ⟨rfl,q1,q2,q3⟩
    . exact R.pl n ao q
    . exact q2
  . rcases hg with hg | hg
    . rcases hwl a n hg with ⟨_,q,r⟩ | q
      . simp_all
      . have:=R.bnd a n (.inl q);lia
    . have:=R.bnd a n (.inr (hwa a n hg));lia
  . refine qah (R.frs en he) ?_;intro f o' es ep h1 h2 h3 h4 h5;exact ⟨f,o',es,ep,h1,Au _ h2,h3,by rw[hn h2];exact h4,h5⟩
theorem Rep.push (R:Rep W fr g σ s)(o:Obj)(w:Own)(hf:o.isFreed=false)(hw:w=.fz\/w=.other):
    Rep W fr (qc6 g s.heap.objs.size w) σ { s with heap:=s.heap.push o }/\Evo W noX noY g s.heap (qc6 g s.heap.objs.size w) (s.heap.push o):=
  ⟨R.pushG o w hf (.inl ⟨rfl,hw⟩),R.pushEvo o w⟩
theorem Rep.pushLoc (R:Rep W fr g σ s)(o:Obj){ao:AObj}(hp:qdb ao=true)(hr:RO W (qc6 g s.heap.objs.size (.loc σ.length)) (s.heap.push o) s.heap.objs.size σ.length ao)(hf:autoParam (o.isFreed=false) ap0._auto_1):
    Rep W fr (qc6 g s.heap.objs.size (.loc σ.length)) (σ++[ao]) { s with heap:=s.heap.push o }/\Evo W noX noY g s.heap (qc6 g s.heap.objs.size (.loc σ.length)) (s.heap.push o):=
  ⟨R.pushG o _ hf (.inr ⟨ao,rfl,rfl,hp,hr⟩),R.pushEvo o _⟩
end
end
variable {l:List AV} {m:List (Option AV)} {g:Addr->Own} {W:Wd} {g':Addr->Own} {v:AV} {vs:List AV} {σ:List AObj} {z':List AObj} {ao:AObj} {m':List (Option AV)} {z1:List AObj} {z2:List AObj} {av:AV} {z3:List AObj} {m1:List (Option AV)} {z'':List AObj} {kv:List AV} {args:List AV} {y:AV} {m2:List (Option AV)} {acc:List AV} {vals:List AV} {τ:List AObj} {key:AV} {sg:S->List AObj} {H:AV} {ch:List AV}
section
section
theorem Evo.setLoc (R:Rep W fr g σ s)(hg:∀b o,s.heap.get? b=some o->g' b=g b)(hk:∀b o,s.heap.get? b=some o->g b≠.loc n->g b≠.aux n->h'.get? b=some o):Evo W noX (·=n) g s.heap g' h':=by
  have hin:∀{a:Addr},g a≠.other->g' a=g a:=fun {a} q=>by refine Aq (R.low a q) ?_;intro o ho;exact hg a o ho
  refine ⟨fun a o ho _ hq=>.of (hk a o ho ?_ ?_),fun a o j ho hj hy=>hk a o ho (fun q=>?_) (fun q=>?_),fun a q _=>by rw[hin (by rw[q];nofun)];exact q,fun a n q=>by rw[hin (by rw[q];nofun)];exact q,fun a n q=>by rw[hin (by rw[q];nofun)];exact q,
    fun a o ho q _=>.inl (by rw[hg a o ho];exact q),fun a o ht ho=>⟨o,hk a o ho (by rw[R.tabO a ht];nofun) (by rw[R.tabO a ht];nofun)⟩⟩
  . rcases hq with q | ⟨q,_⟩ <;> rw[q] <;> nofun
  . rcases hq with q | ⟨q,_⟩ <;> rw[q] <;> nofun
  . rw[q] at hj;rcases hj with hj | hj <;> cases hj;exact hy rfl
  . rw[q] at hj;rcases hj with hj | hj <;> cases hj;exact hy rfl
theorem Rep.setLoc (R:Rep W fr g σ s)(tk:Nat){ao':AObj}(hn:σ[n]?=some ao)(hg:∀b o,s.heap.get? b=some o->g' b=g b)(hg2:∀b,s.heap.get? b=none->g' b=.other\/((g' b=.aux n\/g' b=.fz)/\∃o,h'.get? b=some o))(hk:∀b o,s.heap.get? b=some o->g b≠.loc n->g b≠.aux n->h'.get? b=some o)(hk2:∀b o,s.heap.get? b=some o->(g b=.loc n\/g b=.aux n)->∃o',h'.get? b=some o')(hp:qdb ao'=true)(hr:∀a,g a=.loc n->RO W g' h' a n ao'):
    Rep W fr g' (σ.set n ao') { s with heap:=h',toks:=tk }:=by
  have e:=Evo.setLoc R hg hk;have hX:XOk noX g s.heap:=XOk.no;have hnl:n<σ.length:=(Ap.mp hn).1;have hcase:∀a,(∃o,s.heap.get? a=some o)\/s.heap.get? a=none:=fun a=>by cases s.heap.get? a with | none=>exact .inr rfl | some o=>exact .inl ⟨o,rfl⟩
  have hlc:∀a k,g' a=.loc k->g a=.loc k:=fun a k q=>by
    rcases hcase a with ⟨o,ho⟩ | ho
    . rw[<- hg a o ho];exact q
    . rcases hg2 a ho with r | ⟨r | r,_⟩ <;> rw[r] at q <;> cases q
  refine ⟨fun a o ho ht=>hk a o (R.base a o ho ht) ?_ ?_,fun a o ho=>?_,
    fun a ht=>?_,fun a ht=>?_,fun a ha=>?_,fun k ak hk'=>?_,fun a b k qa qb=>R.uniq a b k (hlc a k qa) (hlc b k qb),fun k ak hk'=>?_,fun a k q=>?_,fun en he=>?_,R.gens,R.os⟩
  . rcases R.baseO a o ho with q | q <;> rw[q] <;> exact nofun
  . rcases R.baseO a o ho with q | q <;> rw[q] <;> exact nofun
  . by_cases ht:W.tab a
    . refine qa5 (R.tabs a ht) ?_;intro more h2 _;rw[hg a _ h2];exact R.baseO a o ho
    . rw[hg a _ (R.base a o ho ht)];exact R.baseO a o ho
  . refine qa5 (R.tabs a ht) ?_;intro more h2 _;rw[hg a _ h2];exact R.tabO a ht
  . refine qaj (R.tabs a ht) ?_;intro more h2 h3 h4;have q:=R.tabO a ht;exact ⟨more,hk a _ h2 (by rw[q];exact nofun) (by rw[q];exact nofun),h3,fun pos v q=>(h4 pos v q).mono e hX⟩
  . rcases hcase a with ⟨o,ho⟩ | ho
    . by_cases q1:g a=.loc n
      . exact hk2 a o ho (.inl q1)
      . by_cases q2:g a=.aux n
        . exact hk2 a o ho (.inr q2)
        . exact ⟨o,hk a o ho q1 q2⟩
    . rcases hg2 a ho with r | ⟨_,r⟩
      . exact absurd r ha
      . exact r
  . by_cases hkn:k=n
    . subst hkn;rw[Bs hnl] at hk';obtain rfl:=Sj hk';refine qa5 (R.locs k ao hn) ?_;intro a qa _;exact ⟨a,e.loc a k qa,hr a qa⟩
    . rw[Bl (BH hkn)] at hk';refine qa5 (R.locs k ak hk') ?_;intro a qa ra;refine ⟨a,e.loc a k qa,ra.mono e hX (fun o q=>hk a o q ?_ ?_) (fun d hd o q=>hk d o q ?_ ?_) ak (R.pl k ak hk')⟩
      . rw[qa];intro q;injection q with q;exact hkn q
      . rw[qa];exact nofun
      . rw[hd];exact nofun
      . rw[hd];intro q;injection q with q;exact hkn q
  . by_cases hkn:k=n
    . subst hkn;rw[Bs hnl] at hk';obtain rfl:=Sj hk';exact hp
    . rw[Bl (BH hkn)] at hk';exact R.pl k ak hk'
  . rw[A5];rcases hcase a with ⟨o,ho⟩ | ho
    . rw[hg a o ho] at q;exact R.bnd a k q
    . rcases hg2 a ho with r | ⟨r | r,_⟩ <;> rw[r] at q
      . rcases q with q | q <;> cases q
      . rcases q with q | q
        . cases q
        . injection q with q;rw[<- q];exact hnl
      . rcases q with q | q <;> cases q
  . refine qah (R.frs en he) ?_;intro f o es ep h1 h2 h3 h4 h5;exact ⟨f,o,es,ep,h1,hk f o h2 (by rw[h4];exact nofun) (by rw[h4];exact nofun),h3,by rw[hg f o h2];exact h4,h5⟩
theorem Rep.fewer {fr':List Env}(R:Rep W fr g σ s)(h:∀e∈fr',e∈fr):Rep W fr' g σ s:=
  { R with frs:=fun e he=>R.frs e (h e he) }
end
mutual
noncomputable def qbd (b:Nat):AV->Bool
  | .loc n=>decide (n<b)
  | .tup l=>qad b l
  | .lst l=>qad b l
  | .bound _ s=>qbd b s
  | .clo ..=>false
  | _=>true
termination_by structural x=>x
noncomputable def qad (b:Nat):List AV->Bool
  | []=>true
  | a::l=>qbd b a&&qad b l
termination_by structural x=>x
end
noncomputable def qdk (b:Nat):AObj->Bool
  | .lst l=>qad b l
  | .dstr _ l=>qad b l
  | .dint _ l=>qad b l
  | .elem _ l=>qad b l
  | .iter l=>qad b l
  | _=>true
mutual
noncomputable def frz (b:Nat) (σ:List AObj):AV->AV
  | .loc n=>if n<b then .loc n else match σ[n]? with
    | some (.lst l)=>if qad b l then .lst l else .any
    | _=>.any
  | .tup l=>.tup (qel b σ l)
  | .lst l=>.lst (qel b σ l)
  | .bound f s=>if qbd b s then .bound f s else .any
  | .clo ..=>.any
  | .none=>.none
  | .bool b=>.bool b
  | .int i=>.int i
  | .str s=>.str s
  | .glob v=>.glob v
  | .any=>.any
termination_by structural x=>x
noncomputable def qel (b:Nat) (σ:List AObj):List AV->List AV
  | []=>[]
  | a::l=>frz b σ a::qel b σ l
termination_by structural x=>x
end
mutual
theorem qc2:(v:AV)->qbd b v=true->frz b σ v=v
  | .loc n,h=>by have h':decide (n<b)=true:=h;show (if n<b then _ else _)=_;rw[if_pos (of_decide_eq_true h')]
  | .tup l,h=>by show AV.tup (qel b σ l)=_;rw[qan l h]
  | .lst l,h=>by show AV.lst (qel b σ l)=_;rw[qan l h]
  | .bound f s,h=>by have h':qbd b s=true:=h;show (if qbd b s=true then AV.bound f s else .any)=_;rw[if_pos h']
  | .clo ..,h=>by cases (h:false=true)
  | .none,_=>rfl
  | .bool _,_=>rfl
  | .int _,_=>rfl
  | .str _,_=>rfl
  | .glob _,_=>rfl
  | .any,_=>rfl
termination_by structural x=>x
theorem qan:(l:List AV)->qad b l=true->qel b σ l=l
  | [],_=>rfl
  | a::l,h=>by
    have h':(qbd b a&&qad b l)=true:=h;rw[AG] at h';show frz b σ a::qel b σ l=_;rw[qc2 a h'.1,qan l h'.2]
termination_by structural x=>x
end
noncomputable def isL:Option Obj->Bool
  | some ⟨.type "list",none,.seq ..,_⟩=>true
  | _=>false
noncomputable def gx (k:Nat) (g:Addr->Own) (h:Heap):Addr->Own:=fun a=>match g a with
  | .loc n=>if n<k then .loc n else bif isL (h.get? a) then .fz else .other
  | .aux n=>if n<k then .aux n else .other
  | o=>o
section
theorem qfe (e:g a=.fz):gx k g h a=.fz:=by unfold gx;rw[e]
theorem qce (e:g a=.other):gx k g h a=.other:=by unfold gx;rw[e]
theorem qgv (e:g a=.loc n)(hn:n<k):gx k g h a=.loc n:=by unfold gx;rw[e];exact if_pos hn
theorem ql3 (e:g a=.aux n)(hn:n<k):gx k g h a=.aux n:=by unfold gx;rw[e];exact if_pos hn
theorem qrq {m:Nat}{vs:Array Value}(e:g a=.loc n)(hn:¬n<k)(ho:h.get? a=some (qaa vs m)):gx k g h a=.fz:=by
  unfold gx;rw[e];show (if n<k then _ else _)=_;rw[if_neg hn,ho];rfl
theorem qqm (e:g a=.loc n)(hn:¬n<k):gx k g h a=.fz\/gx k g h a=.other:=by
  unfold gx;rw[e];show (if n<k then _ else _)=_\/(if n<k then _ else _)=_;rw[if_neg hn];cases isL (h.get? a)
  . exact .inr rfl
  . exact .inl rfl
theorem qo0 (e:g a=.aux n)(hn:¬n<k):gx k g h a=.other:=by unfold gx;rw[e];exact if_neg hn
theorem qex (e:gx k g h a=.loc n):g a=.loc n/\n<k:=by
  cases q:g a with
  | fz=>cases (qfe q).symm.trans e
  | other=>cases (qce q).symm.trans e
  | aux m=>
    by_cases hm:m<k
    . cases (ql3 q hm).symm.trans e
    . cases (qo0 q hm).symm.trans e
  | loc m=>
    by_cases hm:m<k
    . obtain rfl:=Own.loc.inj ((qgv q hm).symm.trans e);exact ⟨rfl,hm⟩
    . rcases qqm (h:=h) q hm with r | r <;> cases r.symm.trans e
theorem qlw (e:gx k g h a=.aux n):g a=.aux n/\n<k:=by
  cases q:g a with
  | fz=>cases (qfe q).symm.trans e
  | other=>cases (qce q).symm.trans e
  | loc m=>
    by_cases hm:m<k
    . cases (qgv q hm).symm.trans e
    . rcases qqm (h:=h) q hm with r | r <;> cases r.symm.trans e
  | aux m=>
    by_cases hm:m<k
    . obtain rfl:=Own.aux.inj ((ql3 q hm).symm.trans e);exact ⟨rfl,hm⟩
    . cases (qo0 q hm).symm.trans e
mutual
theorem RV.cl:(av:AV)->qbd k av=true->(v:Value)->RV W g h av v->RV W (gx k g h) h av v
  | .loc n,hc,v,r=>by
    refine qa5 (r) ?_;intro a eq_7_1 hg;subst eq_7_1;have hc':decide (n<k)=true:=hc;exact ⟨a,rfl,qgv hg (of_decide_eq_true hc')⟩
  | .tup l,hc,v,r=>by
    refine qa2 (r) ?_;intro a vs n eq_8_3 hg ho hr;subst eq_8_3;exact ⟨a,vs,n,rfl,qfe hg,ho,RVs.cl l hc _ hr⟩
  | .lst l,hc,v,r=>by
    refine qa2 (r) ?_;intro a vs n eq_9_3 hg ho hr;subst eq_9_3;exact ⟨a,vs,n,rfl,qfe hg,ho,RVs.cl l hc _ hr⟩
  | .bound f q,hc,v,r=>by
    refine qb3 (r) ?_;intro a sv eq_10_2 hg ho hr;subst eq_10_2;exact ⟨a,sv,rfl,qfe hg,ho,RV.cl q hc _ hr⟩
  | .clo ..,hc,v,r=>by cases (hc:false=true)
  | .none,_,v,r=>(r:v=.none)
  | .bool b,_,v,r=>(r:v=.bool b)
  | .int i,_,v,r=>(r:∃t,v=.int i t)
  | .str x,_,v,r=>(r:∃t,v=.str x t)
  | .glob w,_,v,r=>(r:v=w)
  | .any,_,v,r=>(Bb:True)
termination_by structural x=>x
theorem RVs.cl:(l:List AV)->qad k l=true->(vs:List Value)->RVs W g h l vs->RVs W (gx k g h) h l vs
  | [],_,vs,r=>(r:vs=[])
  | a::l,hc,vs,r=>by
    refine qa1 (r) ?_;intro v q eq_11_2 h1 h2;subst eq_11_2;have h':(qbd k a&&qad k l)=true:=hc;rw[AG] at h';exact ⟨v,q,rfl,RV.cl a h'.1 _ h1,RVs.cl l h'.2 _ h2⟩
termination_by structural x=>x
end
mutual
theorem RV.exit (R:Rep W fr g σ s):(av:AV)->(v:Value)->RV W g s.heap av v->RV W (gx k g s.heap) s.heap (frz k σ av) v
  | .loc n,v,r=>by
    refine qa5 (r) ?_;intro a eq_12_1 hg;subst eq_12_1;show RV W (gx k g s.heap) s.heap (if n<k then .loc n else match σ[n]? with | some (.lst l)=>if qad k l then .lst l else .any | _=>.any) _;by_cases hn:n<k
    . rw[if_pos hn];exact ⟨a,rfl,qgv hg hn⟩
    . rw[if_neg hn];split
      . rename_i l e;split
        . rename_i hc;refine qa5 (R.locs n _ e) ?_;intro a' ha' ro;have:a'=a:=R.uniq _ _ _ ha' hg;subst this;refine qcr (ro) ?_;intro vs m ho hr;exact ⟨a',vs,m,rfl,qrq hg hn ho,ho,RVs.cl l hc _ hr⟩
        . exact (Bb:True)
      . exact (Bb:True)
  | .tup l,v,r=>by
    refine qa2 (r) ?_;intro a vs n eq_15_3 hg ho hr;subst eq_15_3;exact ⟨a,vs,n,rfl,qfe hg,ho,RVs.exit R l _ hr⟩
  | .lst l,v,r=>by
    refine qa2 (r) ?_;intro a vs n eq_16_3 hg ho hr;subst eq_16_3;exact ⟨a,vs,n,rfl,qfe hg,ho,RVs.exit R l _ hr⟩
  | .bound f q,v,r=>by
    refine qb3 (r) ?_;intro a sv eq_17_2 hg ho hr;subst eq_17_2;show RV W (gx k g s.heap) s.heap (if qbd k q=true then AV.bound f q else .any) _;split
    . rename_i hc;exact ⟨a,sv,rfl,qfe hg,ho,RV.cl q hc _ hr⟩
    . exact (Bb:True)
  | .clo ..,v,r=>(Bb:True)
  | .none,v,r=>(r:v=.none)
  | .bool b,v,r=>(r:v=.bool b)
  | .int i,v,r=>(r:∃t,v=.int i t)
  | .str x,v,r=>(r:∃t,v=.str x t)
  | .glob w,v,r=>(r:v=w)
  | .any,v,r=>(Bb:True)
termination_by structural x=>x
theorem RVs.exit (R:Rep W fr g σ s):(l:List AV)->(vs:List Value)->RVs W g s.heap l vs->RVs W (gx k g s.heap) s.heap (qel k σ l) vs
  | [],vs,r=>(r:vs=[])
  | a::l,vs,r=>by
    refine qa1 (r) ?_;intro v q eq_18_2 h1 h2;subst eq_18_2;exact ⟨v,q,rfl,RV.exit R a _ h1,RVs.exit R l _ h2⟩
termination_by structural x=>x
end
theorem CodeOk.exit {v:Value}(c:CodeOk W g h v):CodeOk W (gx k g h) h v:=by
  refine qg0 (c) ?_;(try clear c);intro c o vs q t eq_19_5 hg r;subst eq_19_5;exact ⟨c,o,vs,q,t,rfl,qce hg,r⟩
theorem Evo.exit {X:Addr->Prop}{g0:Addr->Own}{h0a:Heap}(e:Evo W X Y g0 h0a g h)(hb:∀a n,(g0 a=.loc n\/g0 a=.aux n)->n<b)(hk:b<=k):Evo W X Y g0 h0a (gx k g h) h:=
  ⟨e.keep,e.keepL,fun a q hx=>qfe (e.fz a q hx),fun a n q=>qgv (e.loc a n q) (Ah (hb a n (.inl q)) hk),fun a n q=>ql3 (e.aux a n q) (Ah (hb a n (.inr q)) hk),
    fun a o ha q hx=>(e.oth a o ha q hx).imp qce fun r=>⟨qfe r.1,r.2⟩,e.tabs⟩
end
end
section
noncomputable def kcl:Ax->Nat
  | .local=>0
  | .cell=>1
  | .free=>1
  | _=>2
structure Cx where
  W:Wd
  Y:Nat->Prop
  nm:List (Str×Ax)
  cd:Value
structure Fra (C:Cx) (env:Env) (m:List (Option AV)) (g:Addr->Own) (h:Heap):Prop where
  kind:env.scope.kind=.function
  names:∀(i:Nat) (x:Str) (k:Ax),C.nm[i]?=some (x,k)->∃k',env.kindOf x=some k'/\kcl k'=kcl k
  nd:∀(i j:Nat) (x:Str) (k k':Ax),C.nm[i]?=some (x,k)->C.nm[j]?=some (x,k')->i=j
  glob:env.globals=Bk
  blt:env.builtins=Bm
  code:env.code=C.cd
  Lo:g env.locals=.other
  Lz:C.W.s1.heap.get? env.locals=none
  ns:∃mh,h.Ns env.locals mh/\∀(i:Nat) (x:Str) (av:AV),C.nm[i]?=some (x,.local)->m[i]?=some (some av)->∃v,mh x=some v/\RV C.W g h av v
  cell:∀(i:Nat) (x:Str) (k:Ax),C.nm[i]?=some (x,k)->kcl k=1->∃c ov,env.cells.lookup x=some c/\C.W.s1.heap.get? c=none/\h.get? c=some (qay ov)/\(g c=.other\/g c=.fz) /\
    ∀av,m[i]?=some (some av)->∃v,ov=some v/\RV C.W g h av v
  pl:(∀(i:Nat) (x:Str),C.nm[i]?≠some (x,.cell))\/(∀(i:Nat) (av:AV),m[i]?=some (some av)->plain av=true)
  inj:∀(i j:Nat) (x y:Str) (k:Ax) (c:Addr),C.nm[i]?=some (x,.cell)->C.nm[j]?=some (y,k)->kcl k=1->env.cells.lookup x=some c->env.cells.lookup y=some c->i=j
noncomputable def FX (nm:List (Str×Ax)) (env:Env):Addr->Prop:=fun a=>a=env.locals\/∃(i:Nat) (x:Str),nm[i]?=some (x,.cell)/\env.cells.lookup x=some a
structure Room (k:Nat) (fr:List Env) (A:BF):Prop where
  handled:A.handled=none
  depth:A.depth+k<=600
  units:A.units+8*k<=9000
  frames:A.frames=some fr
section
variable {C:Cx}
theorem Room.le {k':Nat}(r:Room k fr A)(h:k'<=k):Room k' fr A:=⟨r.handled,by have:=r.depth;lia,by have:=r.units;lia,r.frames⟩
theorem Room.in1 (r:Room (k+1) fr A):Room k fr A.in1:=⟨r.handled,by have:=r.depth;show A.depth+k<=600;lia,by have:=r.units;show A.units+1+8*k<=9000;lia,r.frames⟩
theorem Room.deeper {e:Env}(r:Room (k+1) fr A):Room k (e::fr) (A.deeper e):=
  ⟨r.handled,by have:=r.depth;show A.depth+1+k<=600;lia,by have:=r.units;show A.units+3+8*k<=9000;lia,by show A.frames.map _=_;rw[r.frames];rfl⟩
theorem Room.line (r:Room k fr A):A.units<cLine:=by have:=r.units;have:cLine=9900:=rfl;lia
theorem Room.dep (r:Room k fr A):A.depth<Gs:=by have:=r.depth;have:Gs=1000:=rfl;lia
theorem qb6 (h:C.W.s1.heap.get? a=none):¬C.W.tab a:=fun q=>by rw[C.W.tabEx a q] at h;cases h
theorem Fra.evo (F:Fra C env m g h)(e:Evo C.W noX Y g h g' h'):Fra C env m g' h':=by
  have hX:XOk noX g h:=XOk.no;have up:∀av v,RV C.W g h av v->RV C.W g' h' av v:=fun av v r=>r.mono e hX av (.inl fun _ q=>q.elim) v
  refine qa5 (F.ns) ?_;intro mh ne_0_1 hm;refine qar ne_0_1 ?_;intro oL es ep hL hLd r;refine qaj ((e.keep _ _ hL (fun q=>q) (.inr ⟨F.Lo,qb6 F.Lz⟩)).ex) ?_;intro oL' hL' hLd' _;rw[hLd] at hLd';refine ⟨F.kind,F.names,F.nd,F.glob,F.blt,F.code,?_,F.Lz,⟨mh,⟨oL',es,ep,hL',hLd',r⟩,fun i x av h1 h2=>?_⟩,fun i x k h1 h2=>?_,F.pl,F.inj⟩
  . rcases e.oth _ _ hL F.Lo (fun q=>q) with q | ⟨_,u,q⟩
    . exact q
    . rw[hL'] at q;obtain rfl:=Sj q;cases hLd'
  . refine qa5 (hm i x av h1 h2) ?_;intro v h3 h4;exact ⟨v,h3,up _ _ h4⟩
  . refine qap (F.cell i x k h1 h2) ?_;intro c ov h3 h4 h5 h6 h7;have h5':h'.get? c=some (qay ov):=(e.keep _ _ h5 (fun q=>q) (h6.symm.imp id fun q=>⟨q,qb6 h4⟩)).get;refine ⟨c,ov,h3,h4,h5',?_,fun av q=>?_⟩
    . rcases h6 with q | q
      . exact (e.oth _ _ h5 q (fun q=>q)).imp id (·.1)
      . exact .inr (e.fz _ q fun q=>q)
    . refine qa5 (h7 av q) ?_;intro v h8 h9;exact ⟨v,h8,up _ _ h9⟩
theorem Fra.weak (F:Fra C env m g h)(hw:∀(i:Nat) (av:AV),m'[i]?=some (some av)->m[i]?=some (some av)):Fra C env m' g h:=by
  refine qa5 (F.ns) ?_;intro mh hn hm;refine { F with ns:=⟨mh,hn,fun i x av h1 h2=>hm i x av h1 (hw i av h2)⟩,cell:=fun i x k h1 h2=>?_,pl:=F.pl.imp id fun q i av h=>q i av (hw i av h) };refine qap (F.cell i x k h1 h2) ?_;intro c ov h3 h4 h5 h6 h7;exact ⟨c,ov,h3,h4,h5,h6,fun av q=>h7 av (hw i av q)⟩
theorem Fra.xok (F:Fra C env m g h):XOk (FX C.nm env) g h:=by
  intro a ha;rcases ha with rfl | ⟨i,x,hi,hc⟩
  . refine qa5 (F.ns) ?_;intro mh ne_7_1 hm;refine qar ne_7_1 ?_;intro oL es ep hL hLd r;exact ⟨.inl F.Lo,fun o vs ho hd=>by rw[hL] at ho;obtain rfl:=Sj ho;rw[hLd] at hd;cases hd⟩
  . refine qap (F.cell i x .cell hi rfl) ?_;intro c ov h3 h4 h5 h6 h7;rw[hc] at h3;obtain rfl:=Sj h3;exact ⟨h6.imp id fun q=>⟨q,_,h5⟩,fun o vs ho hd=>by rw[h5] at ho;obtain rfl:=Sj ho;cases hd⟩
end
def Ev (C:Cx) (k:Nat) (fr:List Env) (m:List (Option AV)) (σ:List AObj) (e:Expr) (v:AV) (z':List AObj):Prop:=
  ∀(A:BF) (env:Env) (g:Addr->Own) (s:Al),Room k fr A->Rep C.W fr g σ s->Fra C env m g s.heap->∀(Q:Value->Al->Prop) (E:Value->Al->Prop),
    (∀v' g' s',Rep C.W fr g' z' s'->Evo C.W noX C.Y g s.heap g' s'.heap->RV C.W g' s'.heap v v'->Q v' s')->wpAny (model C.W.prog C.W.w) A (eval e env) Q E s
def Tr (C:Cx) (k:Nat) (fr:List Env) (m:List (Option AV)) (σ:List AObj) (e:Expr) (b:Bool) (z':List AObj):Prop:=
  ∀(A:BF) (env:Env) (g:Addr->Own) (s:Al),Room k fr A->Rep C.W fr g σ s->Fra C env m g s.heap->∀(Q:Bool->Al->Prop) (E:Value->Al->Prop),
    (∀g' s',Rep C.W fr g' z' s'->Evo C.W noX C.Y g s.heap g' s'.heap->Q b s')->wpAny (model C.W.prog C.W.w) A (isTrue e env (eval e env)) Q E s
def Op2 (W:Wd) (Y:Nat->Prop) (k:Nat) (fr:List Env) (σ:List AObj) (t:Value->Value->Sem Value) (a b v:AV) (z':List AObj):Prop:=
  ∀(A:BF) (g:Addr->Own) (s:Al) (va vb:Value),Room k fr A->Rep W fr g σ s->RV W g s.heap a va->RV W g s.heap b vb->∀(Q:Value->Al->Prop) (E:Value->Al->Prop),
    (∀v' g' s',Rep W fr g' z' s'->Evo W noX Y g s.heap g' s'.heap->RV W g' s'.heap v v'->Q v' s')->wpAny (model W.prog W.w) A (t va vb) Q E s
def Tv (W:Wd) (Y:Nat->Prop) (k:Nat) (fr:List Env) (σ:List AObj) (a:AV) (b:Bool):Prop:=
  ∀(A:BF) (g:Addr->Own) (s:Al) (va:Value),Room k fr A->Rep W fr g σ s->RV W g s.heap a va->∀(Q:Bool->Al->Prop) (E:Value->Al->Prop),
    (∀g' s',Rep W fr g' σ s'->Evo W noX Y g s.heap g' s'.heap->Q b s')->wpAny (model W.prog W.w) A (truthy va) Q E s
def Calls (W:Wd) (Y:Nat->Prop) (k:Nat) (fr:List Env) (σ:List AObj) (f:AV) (args:List AV) (kn:List Str) (kv:List AV) (v:AV) (z':List AObj):Prop:=
  ∀(A:BF) (g:Addr->Own) (s:Al) (vf:Value) (vs ks:List Value),Room k fr A->Rep W fr g σ s->RV W g s.heap f vf->RVs W g s.heap args vs->RVs W g s.heap kv ks->∀(Q:Value->Al->Prop) (E:Value->Al->Prop),
    (∀v' g' s',Rep W fr g' z' s'->Evo W noX Y g s.heap g' s'.heap->RV W g' s'.heap v v'->Q v' s')->wpAny (model W.prog W.w) A (call vf vs (kn.zip ks)) Q E s
section
variable {C:Cx}
theorem RV.up {v:Value}(r:RV W g h av v)(e:Evo W noX Y g h g' h'):RV W g' h' av v:=
  r.mono e XOk.no av (.inl fun _ q=>q.elim) v
theorem RVs.up {vs:List Value}(r:RVs W g h l vs)(e:Evo W noX Y g h g' h'):RVs W g' h' l vs:=
  r.mono e XOk.no l (.inl fun _ q=>q.elim) vs
theorem Fra.up (F:Fra C env m g h)(e:Evo C.W noX Y g h g' h'):Fra C env m g' h':=F.evo e
theorem Evo.wk {Y':Nat->Prop}(e:Evo W noX Y g h g' h')(hY:∀n,Y n->Y' n):Evo W noX Y' g h g' h':=
  ⟨e.keep,fun a o n ho hg hy=>e.keepL a o n ho hg fun q=>hy (hY n q),e.fz,e.loc,e.aux,e.oth,e.tabs⟩
theorem Evo.no (e:Evo W noX noY g h g' h'):Evo W noX Y g h g' h':=e.wk fun _ q=>q.elim
theorem Ia1 {i:Int}:Ev C k fr m σ (.Constant (.int i) n p) (.int i) σ:=fun A env g s r R F Q E hQ=>
  wpAny_Constant_int (hQ _ g _ (R.tok _) Evo.refl ⟨_,rfl⟩)
theorem Ia8:Ev C k fr m σ (.Constant (.str x) n p) (.str x) σ:=fun A env g s r R F Q E hQ=>
  Calls.Constant_str (hQ _ g _ (R.tok _) Evo.refl ⟨_,rfl⟩)
theorem Iaf:Ev C k fr m σ (.Constant .none n p) .none σ:=fun A env g s r R F Q E hQ=>
  show wpAny _ A (pure .none) Q E s from Ag (hQ _ g _ R Evo.refl rfl)
theorem Ibd {b:Bool}:Ev C k fr m σ (.Constant (.bool b) n p) (.bool b) σ:=fun A env g s r R F Q E hQ=>
  show wpAny _ A (pure (.bool b)) Q E s from Ag (hQ _ g _ R Evo.refl rfl)
theorem Ibh (hi:C.nm[i]?=some (x,.local))(hv:m[i]?=some (some v))(hd:autoParam ((x==("__debug__":Str))=false) ap1._auto_1):Ev C k fr m σ (.Name x p) v σ:=fun A env g s r R F Q E hQ=>by
  refine qa5 (F.ns) ?_;intro mh hn hm;refine qa5 (hm i x v hi hv) ?_;intro w h1 h2;refine qa5 (F.names i x _ hi) ?_;intro k' h3 h4;have:k'=.local:=by cases k' <;> first | rfl | (exact absurd h4 (by decide))
  subst this;exact Ff (EN F.kind h3 hn h1 (hQ _ g _ R Evo.refl h2)) hd
theorem qdx {v:Value}(hk:env.scope.kind=.function)(hx:env.kindOf x=some kd)(hkd:kcl kd=1)(hc:env.cells.lookup x=some c)(ho:s.heap.get? c=some (qay (some v)))(h:Q v s)(hn:(x==("__classdict__":Str))=false):wpAny M A (loadName env x) Q E s:=by
  unfold loadName;have hcell:GO env x=pure c:=by unfold GO;rw[hc]
  have hg:∀{Q':Option Value->Al->Prop},Q' (some v) s->wpAny M A (cellGet c) Q' E s:=fun q=>by
    unfold cellGet;exact Aa (EG ho (Ag q))
  cases kd with
  | «local»=>cases hkd
  | globalExplicit=>cases hkd
  | globalImplicit=>cases hkd
  | cell=>
    simp only[FI,hk,hx,CG,Cv,AY,if_false];rw[hcell];exact Aa (Ag (Aa (hg (Ag h))))
  | free=>
    simp only[FI,hk,hx,CG,Cv,AY,if_false,hn];rw[hcell];exact Aa (Ag (Aa (hg (Ag h))))
theorem Ie3 (hi:C.nm[i]?=some (x,kd))(hk:kcl kd=1)(hv:m[i]?=some (some v))(hd:autoParam ((x==("__debug__":Str))=false) ap1._auto_1)(hn:autoParam ((x==("__classdict__":Str))=false) ap1._auto_1):
    Ev C k fr m σ (.Name x p) v σ:=fun A env g s r R F Q E hQ=>by
  refine qap (F.cell i x kd hi hk) ?_;intro c ov h3 h4 h5 h6 h7;refine qa5 (h7 v hv) ?_;intro w eq_13_1 h8;subst eq_13_1;refine qa5 (F.names i x _ hi) ?_;intro k' h9 h10;exact Ff (qdx F.kind h9 (h10.trans hk) h3 h5 (hQ _ g _ R Evo.refl h8) hn) hd
theorem Ia2 {l r:Expr}{op:Operator}{a b:AV}(hl:Ev C k fr m σ l a z1)(hr:Ev C k fr m z1 r b z2)(ho:Op2 C.W C.Y k fr z2 (C5 op) a b v z'):Ev C k fr m σ (.BinOp l op r p) v z':=
  fun A env g s rm R F Q E hQ=>by
  refine wpAny_BinOp (hl A env g s rm R F _ _ fun va g1 s1a R1 e1a ra=>?_);refine hr A env g1 s1a rm R1 (F.up e1a) _ _ fun vb g2 s2 R2 e2a rb=>?_
  refine ho A g2 s2 va vb rm R2 (ra.up e2a) rb _ _ fun v' g3 s3 R3 e3a rv=>?_
  exact hQ v' g3 s3 R3 ((e1a.trans e2a).trans e3a) rv
theorem Ias {t:Value->Value->Sem Value}{a b c:Int}(h:∀(A:BF) (s:Al) (ta tb:Tok) (Q:Value->Al->Prop) (E:Value->Al->Prop),A.handled=none->Q (.int c s.toks) { s with toks:=s.toks+1 }->wpAny (model W.prog W.w) A (t (.int a ta) (.int b tb)) Q E s):
    Op2 W Y k fr σ t (.int a) (.int b) (.int c) σ:=fun A g s va vb rm R ha hb Q E hQ=>by
  obtain ⟨ta,rfl⟩:=ha;obtain ⟨tb,rfl⟩:=hb;exact h A s ta tb Q E rm.handled (hQ _ g _ (R.tok _) Evo.refl ⟨_,rfl⟩)
theorem Iai {a b:Int}:Op2 W Y k fr σ (C5 .Add) (.int a) (.int b) (.int (a+b)) σ:=Ias fun _ _ _ _ _ _ _ h=>PyProof.Rows.add_int h
theorem Icy {a b:Int}:Op2 W Y k fr σ (C5 .Sub) (.int a) (.int b) (.int (a - b)) σ:=Ias fun _ _ _ _ _ _ _ h=>PyProof.Rows.sub_int' h
theorem Op2.fdiv {a b:Int}(hb:b≠0)(hp:AA.divisionGoesByPylong a b=false):Op2 W Y k fr σ (C5 .FloorDiv) (.int a) (.int b) (.int (a.fdiv b)) σ:=Ias fun _ _ _ _ _ _ _ h=>by
  exact PyProof.Rows.floordiv_int hb h (.inl hp)
theorem Iaw {a b:Int}(hb:b≠0):Op2 W Y k fr σ (C5 .Mod) (.int a) (.int b) (.int (a.fmod b)) σ:=Ias fun _ _ _ _ _ _ _ h=>PyProof.Rows.mod_int' hb h
end
end
variable {C:Cx}
section
section
theorem Rep.gNs (R:Rep W fr g σ s):s.heap.Ns Bk W.mg:=W.gNs.at' fun o e=>R.base _ o e W.gNT
theorem Rep.bNs (R:Rep W fr g σ s):s.heap.Ns Bm W.mb:=W.bNs.at' fun o e=>R.base _ o e W.bNT
theorem Rep.nolim (R:Rep W fr g σ s):s.heap.NoLimit:=by
  refine qa5 (W.nolim) ?_;intro mc h1 h2;exact ⟨mc,h1.at' fun o e=>R.base _ o e W.cNT,h2⟩
end
section
theorem qbg (hk:env.scope.kind=.function)(hx:env.kindOf x=some kd)(hkd:kcl kd=2)(h:wpAny M A (loadGlobal env x) Q E s):wpAny M A (loadName env x) Q E s:=by
  unfold loadName;cases kd with
  | «local»=>cases hkd
  | cell=>cases hkd
  | free=>cases hkd
  | globalExplicit=>simp only[FI,hk,hx,CG,Cv,AY,if_false];exact h
  | globalImplicit=>simp only[FI,hk,hx,CG,Cv,AY,if_false];exact h
theorem Ie1 {v:Value}(hi:C.nm[i]?=some (x,.globalImplicit))(hv:C.W.mg x=some v)(hd:autoParam ((x==("__debug__":Str))=false) ap1._auto_1):Ev C k fr m σ (.Name x p) (.glob v) σ:=fun A env g s r R F Q E hQ=>by
  refine qa5 (F.names i x _ hi) ?_;intro k' h9 h10;refine Ff (qbg F.kind h9 h10 (Calls.loadGlobal_global (mg:=C.W.mg) (by rw[F.glob];exact R.gNs) hv (hQ _ g _ R Evo.refl rfl))) hd
theorem Idq {v:Value}(hi:C.nm[i]?=some (x,.globalImplicit))(hg:C.W.mg x=none)(hv:C.W.mb x=some v)(hd:autoParam ((x==("__debug__":Str))=false) ap1._auto_1):Ev C k fr m σ (.Name x p) (.glob v) σ:=fun A env g s r R F Q E hQ=>by
  refine qa5 (F.names i x _ hi) ?_;intro k' h9 h10;refine Ff (qbg F.kind h9 h10 (Calls.loadGlobal_builtin (mg:=C.W.mg) (mb:=C.W.mb) (by rw[F.glob];exact R.gNs) hg (by rw[F.blt];exact R.bNs) hv (hQ _ g _ R Evo.refl rfl))) hd
theorem Iav {l r:Expr}{op:CmpOp}{a b:AV}(hl:Ev C k fr m σ l a z1)(hr:Ev C k fr m z1 r b z2)(ho:Op2 C.W C.Y k fr z2 (CM op) a b v z')(hm:autoParam (behindInMarks op r=false) ap0._auto_1):Ev C k fr m σ (.Compare l [op] [r] p) v z':=
  fun A env g s rm R F Q E hQ=>by
  refine wpAny_Compare1 (hl A env g s rm R F _ _ fun va g1 s1a R1 e1a ra=>?_) hm;refine hr A env g1 s1a rm R1 (F.up e1a) _ _ fun vb g2 s2 R2 e2a rb=>?_
  refine ho A g2 s2 va vb rm R2 (ra.up e2a) rb _ _ fun v' g3 s3 R3 e3a rv=>?_
  exact hQ v' g3 s3 R3 ((e1a.trans e2a).trans e3a) rv
theorem Ia3 {l r:Expr}{op:CmpOp}{a b:AV}{c:Bool}(hl:Ev C k fr m σ l a z1)(hr:Ev C k fr m z1 r b z2)(ho:Op2 C.W C.Y k fr z2 (CM op) a b (.bool c) z')(hm:autoParam (behindInMarks op r=false) ap0._auto_1):Tr C k fr m σ (.Compare l [op] [r] p) c z':=
  fun A env g s rm R F Q E hQ=>by
  refine wpAny_isTrue_Compare1 (hl A env g s rm R F _ _ fun va g1 s1a R1 e1a ra=>?_) hm;refine hr A env g1 s1a rm R1 (F.up e1a) _ _ fun vb g2 s2 R2 e2a rb=>?_
  refine ho A g2 s2 va vb rm R2 (ra.up e2a) rb _ _ fun v' g3 s3 R3 e3a rv=>?_
  obtain rfl:v'=.bool c:=rv;exact DG (hQ g3 s3 R3 ((e1a.trans e2a).trans e3a))
theorem Tr.val {b:Bool}(he:Ev C k fr m σ e v z')(ht:Tv C.W C.Y k fr z' v b)(hI:autoParam (∀env w,isTrue e env w=(do let v <- w;Dd e.pos;DQ [v] (truthy v))) ap0._auto_1):Tr C k fr m σ e b z':=
  fun A env g s rm R F Q E hQ=>by
  refine PyProof.Rows.isTrue_plain (he A env g s rm R F _ _ fun va g1 s1a R1 e1a ra=>?_) (hI _ _);exact ht A g1 s1a va rm R1 ra _ _ fun g2 s2 R2 e2a=>hQ g2 s2 R2 (e1a.trans e2a)
theorem Ick {b:Bool}(he:Tr C k fr m σ e b z'):Tr C k fr m σ (.UnaryOp .Not e p) (!b) z':=
  fun A env g s rm R F Q E hQ=>PyProof.Rows.isTrue_not (he A env g s rm R F _ _ fun g1 s1a R1 e1a=>hQ g1 s1a R1 e1a)
def Trs (C:Cx) (k:Nat) (fr:List Env) (m:List (Option AV)) (σ:List AObj) (op:Gu) (es:List Expr) (b:Bool) (z':List AObj):Prop:=
  ∀(A:BF) (env:Env) (g:Addr->Own) (s:Al),Room k fr A->Rep C.W fr g σ s->Fra C env m g s.heap->∀(Q:Bool->Al->Prop) (E:Value->Al->Prop),
    (∀g' s',Rep C.W fr g' z' s'->Evo C.W noX C.Y g s.heap g' s'.heap->Q b s')->wpAny (model C.W.prog C.W.w) A (allTrue op es env) Q E s
theorem Ibb {op:Gu}{b:Bool}(h:Trs C k fr m σ op es b z'):Tr C k fr m σ (.BoolOp op es p) b z':=h
theorem Trs.nil {op:Gu}:Trs C k fr m σ op [] (op==.And) σ:=fun A env g s rm R F Q E hQ=>by
  show wpAny _ A (allTrue op [] env) Q E s;exact Ag (hQ g s R Evo.refl)
theorem qf8 (op:Gu)(e:Expr)(r:List Expr)(env:Env):allTrue op (e::r) env=(do
    match op,<- isTrue e env (eval e env) with
    | .And,false=>pure false
    | .Or,true=>pure true
    | _,_=>allTrue op r env):=by first | rfl | (rw[allTrue];rfl)
theorem Idv {r:List Expr}{b c:Bool}(he:Tr C k fr m σ e b z1)(hr:b=true->Trs C k fr m z1 .And r c z')(hn:b=false->z'=z1):Trs C k fr m σ .And (e::r) (b&&c) z':=fun A env g s rm R F Q E hQ=>by
  rw[qf8];refine Aa (he A env g s rm R F _ _ fun g1 s1a R1 e1a=>?_);cases b with
  | false=>cases hn rfl;exact Ag (hQ g1 s1a R1 e1a)
  | true=>exact hr rfl A env g1 s1a rm R1 (F.up e1a) _ _ fun g2 s2 R2 e2a=>hQ g2 s2 R2 (e1a.trans e2a)
theorem Ibe {r:List Expr}{b c:Bool}(he:Tr C k fr m σ e b z1)(hr:b=false->Trs C k fr m z1 .Or r c z')(hn:b=true->z'=z1):Trs C k fr m σ .Or (e::r) (b||c) z':=fun A env g s rm R F Q E hQ=>by
  rw[qf8];refine Aa (he A env g s rm R F _ _ fun g1 s1a R1 e1a=>?_);cases b with
  | true=>cases hn rfl;exact Ag (hQ g1 s1a R1 e1a)
  | false=>exact hr rfl A env g1 s1a rm R1 (F.up e1a) _ _ fun g2 s2 R2 e2a=>hQ g2 s2 R2 (e1a.trans e2a)
theorem Ib9 {a b:Expr}{c:Bool}(ht:Tr C k fr m σ t c z1)(ha:c=true->Ev C k fr m z1 a v z')(hb:c=false->Ev C k fr m z1 b v z'):Ev C k fr m σ (.IfExp t a b p) v z':=fun A env g s rm R F Q E hQ=>by
  refine PyProof.Rows.IfExp_ (ht A env g s rm R F _ _ fun g1 s1a R1 e1a=>?_);cases c with
  | true=>exact ha rfl A env g1 s1a rm R1 (F.up e1a) _ _ fun v' g2 s2 R2 e2a rv=>hQ v' g2 s2 R2 (e1a.trans e2a) rv
  | false=>exact hb rfl A env g1 s1a rm R1 (F.up e1a) _ _ fun v' g2 s2 R2 e2a rv=>hQ v' g2 s2 R2 (e1a.trans e2a) rv
def EvAnd (C:Cx) (k:Nat) (fr:List Env) (m:List (Option AV)) (σ:List AObj) (es:List Expr) (v:AV) (z':List AObj):Prop:=
  ∀(A:BF) (env:Env) (g:Addr->Own) (s:Al) (p:Pos),Room k fr A->Rep C.W fr g σ s->Fra C env m g s.heap->∀(Q:Value->Al->Prop) (E:Value->Al->Prop),
    (∀v' g' s',Rep C.W fr g' z' s'->Evo C.W noX C.Y g s.heap g' s'.heap->RV C.W g' s'.heap v v'->Q v' s')->wpAny (model C.W.prog C.W.w) A (boolOp p .And (Gv es env)) Q E s
theorem qau (e:Expr)(r:List Expr)(env:Env):Gv (e::r) env=eval e env::Gv r env:=rfl
theorem qix (env:Env):Gv [] env=[]:=rfl
theorem EvAnd.one (he:Ev C k fr m σ e v z'):EvAnd C k fr m σ [e] v z':=fun A env g s p rm R F Q E hQ=>by
  rw[qau,qix];exact he A env g s rm R F Q E hQ
theorem EvAnd.cons {f:Expr}{r:List Expr}(he:Ev C k fr m σ e (.bool true) z1)(hr:EvAnd C k fr m z1 (f::r) v z'):EvAnd C k fr m σ (e::f::r) v z':=fun A env g s p rm R F Q E hQ=>by
  rw[qau,qau];refine Aa (m:=eval e env) (he A env g s rm R F _ _ fun va g1 s1a R1 e1a ra=>?_);obtain rfl:va=.bool true:=ra;refine Aa (AP (Aa (AK (DG ?_))));have:=hr A env g1 s1a p rm R1 (F.up e1a) Q E fun v' g2 s2 R2 e2a rv=>hQ v' g2 s2 R2 (e1a.trans e2a) rv
  rw[qau] at this;exact this
theorem Ibt (h:EvAnd C k fr m σ es v z'):Ev C k fr m σ (.BoolOp .And es p) v z':=fun A env g s rm R F Q E hQ=>h A env g s p rm R F Q E hQ
theorem Ic3 {i:Int}(he:Ev C k fr m σ e (.int i) z'):Ev C k fr m σ (.UnaryOp .USub e p) (.int (-i)) z':=fun A env g s rm R F Q E hQ=>by
  show wpAny _ A (do let v <- eval e env;Dd p;DQ [v] (unaryOp .USub v)) Q E s;refine Aa (he A env g s rm R F _ _ fun va g1 s1a R1 e1a ra=>?_);obtain ⟨t,rfl⟩:=ra;exact Aa (AP (AK (PyProof.Rows.neg_int (hQ _ g1 _ (R1.tok _) e1a ⟨_,rfl⟩))))
def Evs (C:Cx) (k:Nat) (fr:List Env) (m:List (Option AV)) (σ:List AObj) (es:List Expr) (vs:List AV) (z':List AObj):Prop:=
  ∀(A:BF) (env:Env) (g:Addr->Own) (s:Al) (p:Pos),Room k fr A->Rep C.W fr g σ s->Fra C env m g s.heap->∀(Q:List Value->Al->Prop) (E:Value->Al->Prop),
    (∀vs' g' s',Rep C.W fr g' z' s'->Evo C.W noX C.Y g s.heap g' s'.heap->RVs C.W g' s'.heap vs vs'->Q vs' s')->wpAny (model C.W.prog C.W.w) A (spliced (Fg p (C6 es env))) Q E s
theorem Evs.nil:Evs C k fr m σ [] [] σ:=fun A env g s p rm R F Q E hQ=>Calls.spliced_nil (hQ [] g s R Evo.refl rfl)
theorem Evs.cons {r:List Expr}(he:Ev C k fr m σ e v z1)(hr:Evs C k fr m z1 r vs z')(hs:autoParam (∀env,C6 (e::r) env=(false,eval e env)::C6 r env) ap0._auto_1):Evs C k fr m σ (e::r) (v::vs) z':=
  fun A env g s p rm R F Q E hQ=>by
  rw[hs];show wpAny _ A (spliced ((false,eval e env)::Fg p (C6 r env))) Q E s;refine Calls.spliced_cons (he A env g s rm R F _ _ fun va g1 s1a R1 e1a ra=>?_);exact hr A env g1 s1a p rm R1 (F.up e1a) _ _ fun vs' g2 s2 R2 e2a rv=>hQ _ g2 s2 R2 (e1a.trans e2a) ⟨va,vs',rfl,ra.up e2a,rv⟩
theorem Rep.newFz (R:Rep W fr g σ s)(o:Obj)(hf:autoParam (o.isFreed=false) ap0._auto_1):Rep W fr (qc6 g s.heap.objs.size .fz) σ { s with heap:=s.heap.push o }/\Evo W noX noY g s.heap (qc6 g s.heap.objs.size .fz) (s.heap.push o):=
  R.push o .fz hf (.inl rfl)
theorem Ev.tuple (h:Evs C k fr m σ es vs z')(hz:autoParam (vs.length<=Ai) ap2._auto_1):Ev C k fr m σ (.Tuple es n p) (.tup vs) z':=fun A env g s rm R F Q E hQ=>by
  refine PyProof.Rows.Tuple_ (h A env g s p rm R F _ _ fun vs' g1 s1a R1 e1a rv=>?_);refine AD ?_ (R1.newFz (qkg vs'.toArray 0));intro R2 e2a;refine BO (hQ _ _ _ R2 (e1a.trans e2a.no) ⟨_,_,_,rfl,qa4,Ar _ rfl,by simpa using rv.up e2a⟩) ?_;show vs'.toArray.size<=Ai;rw[Cd,rv.length];exact hz
theorem Ev.list (h:Evs C k fr m σ es vs z')(hz:autoParam (vs.length<=Ai) ap2._auto_1):Ev C k fr m σ (.List es p) (.lst vs) z':=fun A env g s rm R F Q E hQ=>by
  refine PyProof.Rows.List_ (h A env g s p rm R F _ _ fun vs' g1 s1a R1 e1a rv=>?_);refine AD ?_ (R1.newFz (qaa vs'.toArray 0));intro R2 e2a;refine BO (hQ _ _ _ R2 (e1a.trans e2a.no) ⟨_,_,_,rfl,qa4,Ar _ rfl,by simpa using rv.up e2a⟩) ?_;show vs'.toArray.size<=Ai;rw[Cd,rv.length];exact hz
theorem Ian (h:Evs C k fr m σ es vs z')(hp:autoParam (plains vs=true) ap0._auto_1)(hz:autoParam (vs.length<=Ai) ap2._auto_1):Ev C k fr m σ (.List es p) (.loc z'.length) (z'++[.lst vs]):=fun A env g s rm R F Q E hQ=>by
  refine PyProof.Rows.List_ (h A env g s p rm R F _ _ fun vs' g1 s1a R1 e1a rv=>?_);have e2a:Evo C.W noX C.Y g1 s1a.heap (qc6 g1 s1a.heap.objs.size (.loc z'.length)) (s1a.heap.push (qaa vs'.toArray 0)):=
    (R1.pushEvo (qaa vs'.toArray 0) (.loc z'.length))
  refine AD ?_ (R1.pushLoc (qaa vs'.toArray 0) (ao:=.lst vs) hp ⟨vs'.toArray,0,Ar _ rfl,by simpa using rv.up e2a⟩);intro R2 e3a;refine BO (hQ _ _ _ R2 (e1a.trans e3a.no) ⟨_,rfl,qa4⟩) ?_;show vs'.toArray.size<=Ai;rw[Cd,rv.length];exact hz
end
end
section
def Lv (σ:List AObj) (v:AV) (l:List AV):Prop:=v=.lst l\/∃n:Nat,v=.loc n/\σ[n]?=some (.lst l)
theorem Lv.fz:Lv σ (.lst l) l:=.inl rfl
theorem Lv.loc (h:σ[n]?=some (.lst l)):Lv σ (.loc n) l:=.inr ⟨n,rfl,h⟩
theorem Lv.at (L:Lv σ v l)(R:Rep W fr g σ s)(r:RV W g s.heap v va):
    ∃(a:Addr) (vs:Array Value) (n:Nat),va=.ref a/\s.heap.get? a=some (qaa vs n)/\RVs W g s.heap l vs.toList/\(g a=.fz\/∃n,g a=.loc n):=by
  rcases L with rfl | ⟨n,rfl,e⟩
  . refine qa2 (r) ?_;intro a vs n eq_0_3 hg ho hr;subst eq_0_3;exact ⟨a,vs,n,rfl,ho,hr,.inl hg⟩
  . refine qa5 (r) ?_;intro a eq_1_1 hg;subst eq_1_1;refine qjl (R.locs n _ e) ?_;intro a' hg' vs m ho hr;have:a'=a:=R.uniq _ _ _ hg' hg;subst this;exact ⟨a',vs,m,rfl,ho,hr,.inr ⟨n,hg⟩⟩
theorem qav {vs:Array Value}(ho:h.get? a=some (qaa vs n)):h.IsList a vs:=⟨_,ho,rfl,n,rfl⟩
noncomputable def qbq (l:List AV) (lo hi st:Option Int):List AV:=
  (EH (B6 lo hi st l.length).1 (B6 lo hi st l.length).2.1 (B6 lo hi st l.length).2.2).filterMap fun i=>l[i]?
theorem RVs.pickL {vs:List Value}(r:RVs W g h l vs):∀is:List Nat,RVs W g h (is.filterMap fun i=>l[i]?) (is.filterMap fun i=>vs[i]?)
  | []=>rfl
  | i::is=>by
    rw[EZ,EZ];cases e:l[i]? with
    | none=>
      have:vs[i]?=none:=by rw[List.getElem?_eq_none_iff] at e ⊢;rw[r.length];exact e
      rw[this];exact RVs.pickL r is
    | some a=>
      refine qa5 (r.getA e) ?_;intro v hv ha;rw[hv];exact ⟨v,_,rfl,ha,RVs.pickL r is⟩
theorem RVs.pick {vs:Array Value}(r:RVs W g h l vs.toList)(lo hi st:Option Int):RVs W g h (qbq l lo hi st) (slicePick vs lo hi st).toList:=by
  have hl:vs.size=l.length:=by rw[<- r.length,AC]
  unfold qbq slicePick;rw[hl];have:=r.pickL (EH (B6 lo hi st l.length).1 (B6 lo hi st l.length).2.1 (B6 lo hi st l.length).2.2);simpa using this
section
theorem list_getitem_look:AW (.type "list") "__getitem__"=pure (some (.builtin "list.__getitem__")):=PySem.list_getitem_lookup
theorem Ia9 {i:Expr}{a:AV}{x:Int}(he:Ev C k fr m σ e a z1)(hi:Ev C k fr m z1 i (.int x) z')(hL:Lv z' a l)(hx:∃j,CN x l.length=some j/\l[j]?=some v)(hz:l.length<=Ai)(hs:autoParam (∀o w,FB i false o w=operate [o,w] (GU o w)) ap0._auto_1):Ev C k fr m σ (.Subscript e i p) v z':=fun A env g s rm R F Q E hQ=>by
  refine PyProof.Rows.Subscript_ (he A env g s rm R F _ _ fun va g1 s1a R1 e1a ra=>hi A env g1 s1a rm R1 (F.up e1a) _ _ fun vi g2 s2 R2 e2a rx=>?_);obtain ⟨t,rfl⟩:=rx;refine qa2 (hL.at R2 (ra.up e2a)) ?_;intro b vs n eq_5_3 ho hr _;subst eq_5_3;refine qa5 (hx) ?_;intro j hj hv;refine qa5 (hr.getA hv) ?_;intro w hw rw';have hlen:vs.size=l.length:=by rw[<- hr.length,AC]
  have hw':vs[j]?=some w:=by rw[<- BL];exact hw
  have hl:=qav ho;have hz':(l.length:Int)<=2 ^ 24:=by have:Ai=2 ^ 24:=rfl;lia
  refine FQ hl.typeIs list_getitem_look ?_ (hs _ _);unfold CN at hj;by_cases hneg:x<0
  . simp only[hneg,if_true] at hj;split at hj
    . rename_i hc;simp only[AG,decide_eq_true_eq] at hc;cases hj
      refine wpAny_getItem_list_neg hl hneg (by rw[hlen];lia) (by lia) (x:=w) (by rw[hlen];exact hw') (hQ _ _ _ R2 (e1a.trans e2a) rw')
    . cases hj
  . simp only[hneg,if_false] at hj;split at hj
    . rename_i hc;simp only[AG,decide_eq_true_eq] at hc;cases hj
      refine wpAny_getItem_list hl (by simp_all) (by lia) hw' (hQ _ _ _ R2 (e1a.trans e2a) rw')
    . cases hj
theorem Iay {i:Expr}{x:Int}(he:Ev C k fr m σ e (.tup l) z1)(hi:Ev C k fr m z1 i (.int x) z')(hx:∃j,CN x l.length=some j/\l[j]?=some v)(hb:autoParam (-2 ^ 63<=x/\x<2 ^ 63) ap1._auto_1)(hs:autoParam (∀o w,FB i false o w=operate [o,w] (GU o w)) ap0._auto_1):Ev C k fr m σ (.Subscript e i p) v z':=fun A env g s rm R F Q E hQ=>by
  refine PyProof.Rows.Subscript_ (he A env g s rm R F _ _ fun va g1 s1a R1 e1a ra=>hi A env g1 s1a rm R1 (F.up e1a) _ _ fun vi g2 s2 R2 e2a rx=>?_);obtain ⟨t,rfl⟩:=rx;refine qa2 (ra.up e2a) ?_;intro b vs n eq_9_3 hg ho hr;subst eq_9_3;refine qa5 (hx) ?_;intro j hj hv;refine qa5 (hr.getA hv) ?_;intro w hw rw';have hlen:vs.size=l.length:=by rw[<- hr.length,AC]
  have hw':vs[j]?=some w:=by rw[<- BL];exact hw
  refine FQ ⟨_,ho,rfl⟩ PySem.F.slot_tuple_getitem.lookup ?_ (hs _ _);exact PySem.P.getItem_tuple ho hb.1 hb.2 (by rw[hlen];exact hj) hw' (hQ _ _ _ R2 (e1a.trans e2a) rw')
def EvO (C:Cx) (k:Nat) (fr:List Env) (m:List (Option AV)) (σ:List AObj) (e:Option Expr) (x:Option Int) (z':List AObj):Prop:=
  ∀(A:BF) (env:Env) (g:Addr->Own) (s:Al),Room k fr A->Rep C.W fr g σ s->Fra C env m g s.heap->∀(Q:Value->Al->Prop) (E:Value->Al->Prop),
    (∀v' g' s',Rep C.W fr g' z' s'->Evo C.W noX C.Y g s.heap g' s'.heap->IsPart v' x->Q v' s')->wpAny (model C.W.prog C.W.w) A (valueOrNone (evalOpt e env)) Q E s
theorem EvO.none:EvO C k fr m σ none none σ:=fun A env g s rm R F Q E hQ=>Ag (hQ _ g s R Evo.refl .none)
theorem Iao {x:Int}(h:Ev C k fr m σ e (.int x) z'):EvO C k fr m σ (some e) (some x) z':=fun A env g s rm R F Q E hQ=>
  h A env g s rm R F Q E fun v g' s' R' e' r=>by obtain ⟨t,rfl⟩:=r;exact hQ _ g' s' R' e' (.int x t)
theorem Ibv {lo hi st:Option Expr}{q:Pos}{a:AV}{xl xh xs:Option Int}(he:Ev C k fr m σ e a z1)(hl:EvO C k fr m z1 lo xl z2)(hh:EvO C k fr m z2 hi xh z3)(ht:EvO C k fr m z3 st xs z')(hL:Lv z' a l)(h0:xs≠some 0)(hz:l.length<=Ai)(rm:Room k fr A)(R:Rep C.W fr g σ s)(F:Fra C env m g s.heap)(hQ:∀g' s',Rep C.W fr g' z' s'->Evo C.W noX C.Y g s.heap g' s'.heap->∀vs,RVs C.W g' s'.heap (qbq l xl xh xs) vs->Q (.ref s'.heap.objs.size) { s' with heap:=s'.heap.push (qaa vs.toArray 0) }):
    wpAny (model C.W.prog C.W.w) A (eval (.Subscript e (.Slice lo hi st p) q) env) Q E s:=by
  refine PyProof.Rows.Subscript_ (he A env g s rm R F _ _ fun va g1 s1a R1 e1a ra=>?_);rw[arm_eval_Slice];refine Aa (hl A env g1 s1a rm R1 (F.up e1a) _ _ fun vl g2 s2 R2 e2a pl=>?_);refine Aa (AK (hh A env g2 s2 rm R2 ((F.up e1a).up e2a) _ _ fun vh g3 s3 R3 e3a ph=>?_));refine Aa (AK (ht A env g3 s3 rm R3 (((F.up e1a).up e2a).up e3a) _ _ fun vt g4 s4 R4 e4 pt=>?_));refine AD ?_ (R4.push { cls:=.type "slice",data:=.fields #[vl,vh,vt] } .other rfl (.inr rfl));intro R5 e5;refine BO ?_ (by size_fits);refine qa2 (hL.at R5 ((((ra.up e2a).up e3a).up e4).up e5)) ?_;intro b vs n eq_14_3 ho hr _;subst eq_14_3;have hl:=qav ho;have hlen:vs.size=l.length:=by rw[<- hr.length,AC]
  have fin:=hQ _ _ R5 ((((e1a.trans e2a).trans e3a).trans e4).trans e5.no) _ (hr.pick xl xh xs);have hg:wpAny (model C.W.prog C.W.w) A (GU (.ref b) (.ref s4.heap.objs.size)) Q E { s4 with heap:=s4.heap.push { cls:=.type "slice",data:=.fields #[vl,vh,vt] } }:=by
    refine wpAny_getItem_list_slice hl (Heap.IsSliceOf.new ..) pl ph pt h0 ?_ (by rw[hlen];exact hz);simpa using fin
  cases st with
  | none=>exact FQ (ops:=[.ref s4.heap.objs.size,.ref b]) hl.typeIs list_getitem_look hg rfl
  | some st=>exact FQ (ops:=[.ref b,.ref s4.heap.objs.size]) hl.typeIs list_getitem_look hg rfl
theorem Iaz {lo hi st:Option Expr}{q:Pos}{a:AV}{xl xh xs:Option Int}(he:Ev C k fr m σ e a z1)(hl:EvO C k fr m z1 lo xl z2)(hh:EvO C k fr m z2 hi xh z3)(ht:EvO C k fr m z3 st xs z')(hL:Lv z' a l)(h0:xs≠some 0)(hz:l.length<=Ai):Ev C k fr m σ (.Subscript e (.Slice lo hi st p) q) (.lst (qbq l xl xh xs)) z':=fun A env g s rm R F Q E hQ=>by
  refine Ibv he hl hh ht hL h0 hz rm R F fun g' s' R' e' vs r=>?_
  refine AD ?_ (R'.newFz (qaa vs.toArray 0));intro R2 e2a;exact hQ _ _ _ R2 (e'.trans e2a.no) ⟨_,_,_,rfl,qa4,Ar _ rfl,by simpa using r.up e2a⟩
theorem Id3 {lo hi st:Option Expr}{q:Pos}{a:AV}{xl xh xs:Option Int}(he:Ev C k fr m σ e a z1)(hl:EvO C k fr m z1 lo xl z2)(hh:EvO C k fr m z2 hi xh z3)(ht:EvO C k fr m z3 st xs z')(hL:Lv z' a l)(h0:xs≠some 0)(hp:plains (qbq l xl xh xs)=true)(hz:l.length<=Ai):Ev C k fr m σ (.Subscript e (.Slice lo hi st p) q) (.loc z'.length) (z'++[.lst (qbq l xl xh xs)]):=fun A env g s rm R F Q E hQ=>by
  refine Ibv he hl hh ht hL h0 hz rm R F fun g' s' R' e' vs r=>?_
  have e2a:Evo C.W noX C.Y g' s'.heap (qc6 g' s'.heap.objs.size (.loc z'.length)) (s'.heap.push (qaa vs.toArray 0)):=
    (R'.pushEvo (qaa vs.toArray 0) (.loc z'.length))
  refine AD ?_ (R'.pushLoc (qaa vs.toArray 0) (ao:=.lst (qbq l xl xh xs)) hp ⟨vs.toArray,0,Ar _ rfl,by simpa using r.up e2a⟩);intro R2 e3a;exact hQ _ _ _ R2 (e'.trans e3a.no) ⟨_,rfl,qa4⟩
end
end
section
inductive AFl where
  | next | brk | cont | ret (v:AV)
noncomputable def RFl (W:Wd) (g:Addr->Own) (h:Heap):AFl->Flow->Prop
  | .next,f=>f=.next
  | .brk,f=>f=.brk
  | .cont,f=>f=.cont
  | .ret v,f=>∃v',f=.ret v'/\RV W g h v v'
def Ex (C:Cx) (k:Nat) (fr:List Env) (m:List (Option AV)) (σ:List AObj) (st:Stmt) (fl:AFl) (m':List (Option AV)) (z':List AObj):Prop:=
  ∀(A:BF) (env:Env) (g:Addr->Own) (s:Al),Room k fr A->Rep C.W fr g σ s->Fra C env m g s.heap->∀(Q:Flow->Al->Prop) (E:Value->Al->Prop),
    (∀f' g' s',Rep C.W fr g' z' s'->Evo C.W (FX C.nm env) C.Y g s.heap g' s'.heap->Fra C env m' g' s'.heap->RFl C.W g' s'.heap fl f'->Q f' s')->wpAny (model C.W.prog C.W.w) A (exec st env) Q E s
def Exs (C:Cx) (k:Nat) (fr:List Env) (m:List (Option AV)) (σ:List AObj) (sts:List Stmt) (fl:AFl) (m':List (Option AV)) (z':List AObj):Prop:=
  ∀(A:BF) (env:Env) (g:Addr->Own) (s:Al),Room k fr A->Rep C.W fr g σ s->Fra C env m g s.heap->∀(Q:Flow->Al->Prop) (E:Value->Al->Prop),
    (∀f' g' s',Rep C.W fr g' z' s'->Evo C.W (FX C.nm env) C.Y g s.heap g' s'.heap->Fra C env m' g' s'.heap->RFl C.W g' s'.heap fl f'->Q f' s')->wpAny (model C.W.prog C.W.w) A (execs sts env) Q E s
def As (C:Cx) (k:Nat) (fr:List Env) (m:List (Option AV)) (σ:List AObj) (t:Expr) (v:AV) (m':List (Option AV)) (z':List AObj):Prop:=
  ∀(A:BF) (env:Env) (g:Addr->Own) (s:Al) (v':Value),Room k fr A->Rep C.W fr g σ s->Fra C env m g s.heap->RV C.W g s.heap v v'->∀(Q:Unit->Al->Prop) (E:Value->Al->Prop),
    (∀g' s',Rep C.W fr g' z' s'->Evo C.W (FX C.nm env) C.Y g s.heap g' s'.heap->Fra C env m' g' s'.heap->Q () s')->wpAny (model C.W.prog C.W.w) A (assign t env v') Q E s
section
theorem Evo.toX {X:Addr->Prop}(e:Evo W noX Y g h g' h'):Evo W X Y g h g' h':=
  ⟨fun a o ho _ hq=>e.keep a o ho (fun q=>q) hq,e.keepL,fun a q _=>e.fz a q fun q=>q,e.loc,e.aux,fun a o ho q _=>e.oth a o ho q fun q=>q,e.tabs⟩
theorem Evo.toY {X:Addr->Prop}(e:Evo W X noY g h g' h'):Evo W X Y g h g' h':=
  ⟨e.keep,fun a o n ho hg hy=>e.keepL a o n ho hg fun q=>q,e.fz,e.loc,e.aux,e.oth,e.tabs⟩
theorem Exs.nil:Exs C k fr m σ [] .next m σ:=fun A env g s rm R F Q E hQ=>EU (hQ _ g s R Evo.refl F rfl)
theorem Exs.cons {r:List Stmt}{fl:AFl}(h1:Ex C k fr m σ st .next m1 z1)(h2:Exs C k fr m1 z1 r fl m' z'):Exs C k fr m σ (st::r) fl m' z':=fun A env g s rm R F Q E hQ=>by
  refine Cq (h1 A env g s rm R F _ _ fun f' g1 s1a R1 e1a F1 hf=>?_);obtain rfl:f'=.next:=hf;exact h2 A env g1 s1a rm R1 F1 Q E fun f' g2 s2 R2 e2a F2 hf=>hQ f' g2 s2 R2 (e1a.trans e2a) F2 hf
theorem Exs.ret {r:List Stmt}(h1:Ex C k fr m σ st (.ret v) m' z'):Exs C k fr m σ (st::r) (.ret v) m' z':=fun A env g s rm R F Q E hQ=>by
  refine Cq (h1 A env g s rm R F _ _ fun f' g1 s1a R1 e1a F1 hf=>?_);refine qa5 (hf) ?_;intro v' eq_0_1 hv;subst eq_0_1;exact hQ _ g1 s1a R1 e1a F1 ⟨v',rfl,hv⟩
theorem Exs.brk {r:List Stmt}(h1:Ex C k fr m σ st .brk m' z'):Exs C k fr m σ (st::r) .brk m' z':=fun A env g s rm R F Q E hQ=>by
  refine Cq (h1 A env g s rm R F _ _ fun f' g1 s1a R1 e1a F1 hf=>?_);obtain rfl:f'=.brk:=hf;exact hQ _ g1 s1a R1 e1a F1 rfl
theorem qme {Γ:Ctx}{E:Value->Pos->Al->Prop}{m:Str->Option Value}(hn:s.heap.Ns a m)(name:Str)(v:Value)(Q:Unit->Pos->Al->Prop)(hQ:∀h',h'.Ns a (fun x=>if x=name then some v else m x)->AQ a s.heap h'->(∀o,s.heap.get? a=some o->∃o',h'.get? a=some o'/\o'.cls=o.cls) ->
      Q () p { s with heap:=h',toks:=s.toks+1 }):Sem.wp M Γ (nsSet a name v) Q E p s:=by
  refine qa2 hn ?_;intro o es ep ho hd hk hm;have hany:es.any (·.refKey)=false:=by
    rw[E0];intro e he;refine qjj (hk e he) ?_;intro n t h;simp[FS,h]
  have key:∃B hs key,∀Q,Sem.wp M Γ (nsSet a name v) Q E p s=(B/\Q () p { s with heap:=s.heap.update a (Gw name hs key v),toks:=s.toks+1 }):=by
    exact ⟨_,_,_,fun Q=>by
      simp only[nsSet,strHash,Sem.wp_bind',Sem.wp_cmd_ask,Sem.wp_pure',Sem.wp_cmd_mkText];rw[Sem.wp_loadPart_of M Γ E p { s with toks:=s.toks+1 } _ ho];simp only[hd,aRefKeyMayBeTheName_eq,Fh,hany,CP,AY,if_false,Sem.wp_cmd_updatePart];exact rfl⟩
  refine qn5 key ?_;intro B hs key hw;have this:=Sem.wp_nsSet M Γ E p s hn name v (fun _ _ s'=>s'.heap.Ns a (fun x=>if x=name then some v else m x)/\AQ a s.heap s'.heap) fun h' h1 h2=>⟨h1,h2⟩
  rw[hw] at this ⊢;refine ⟨this.1,hQ _ this.2.1 this.2.2 fun o' q=>?_⟩;obtain rfl:=Sj (ho.symm.trans q);obtain ⟨c,d,dt,sl⟩:=o;obtain rfl:dt=.dict es ep:=hd;have hf:(Gw name hs key v ⟨c,d,.dict es ep,sl⟩).cls=c/\(Gw name hs key v ⟨c,d,.dict es ep,sl⟩).isFreed=false:=by
    simp only[Fi,Eb];cases es.findIdx? (·.key.isStr name) <;> exact ⟨rfl,rfl⟩
  exact ⟨_,Bc (Gw name hs key v) ho hf.2,hf.1⟩
theorem qd3 {name:Str}{m:Str->Option Value}{v:Value}{Q:Unit->Al->Prop}(hl:env.kindOf name=some .local)(hn:s.heap.Ns env.locals m)(h:∀h',h'.Ns env.locals (fun x=>if x=name then some v else m x)->AQ env.locals s.heap h'->(∀o,s.heap.get? env.locals=some o->∃o',h'.get? env.locals=some o'/\o'.cls=o.cls) ->
      Q () { s with heap:=h',toks:=s.toks+1 })(hp:autoParam ((env.scope.kind==.class||(env.scope.kind==.module&&env.locals != env.globals))=false) ap0._auto_1):wpAny M A (E8 env name v) Q E s:=by
  rw[storeName_local hl hp];exact fun Γ p _=>qme hn name v _ h
theorem qc4 {m:List (Option α)}{a b:α}(h:(m.set i (some a))[j]?=some (some b)):(j=i/\b=a)\/(j≠i/\m[j]?=some (some b)):=by
  by_cases hj:j=i
  . subst hj;rcases AT j m.length with hl | hl
    . rw[Bs hl] at h;exact .inl ⟨rfl,(Sj (Sj h)).symm⟩
    . rw[BK (by rw[A5];exact hl)] at h;cases h
  . rw[Bl (BH hj)] at h;exact .inr ⟨hj,h⟩
theorem qbt (hi:C.nm[i]?=some (x,.local))(hp:plain av=true\/∀(i:Nat) (x:Str),C.nm[i]?≠some (x,.cell)){v:Value}(R:Rep C.W fr g σ s)(F:Fra C env m g s.heap)(r:RV C.W g s.heap av v){Q:Unit->Al->Prop}(hQ:∀g' s',Rep C.W fr g' σ s'->Evo C.W (FX C.nm env) noY g s.heap g' s'.heap->Fra C env (m.set i (some av)) g' s'.heap->Q () s'):wpAny (model C.W.prog C.W.w) A (E8 env x v) Q E s:=by
  refine qa5 (F.names i x _ hi) ?_;intro k' h3 h4;obtain rfl:k'=.local:=by cases k' <;> first | rfl | (exact absurd h4 (by decide))
  refine qa5 F.ns ?_;intro mh hn hm;refine qd3 h3 hn (fun h' hn' hs hcc=>?_) (by simp[F.kind]);refine qar hn ?_;intro oL es ep hL hx hr;refine qar hn' ?_;intro oL' es' ep' hL' hx' hr';have hxo:XOk (fun a=>a=env.locals) g s.heap:=fun a ha=>by
    subst ha;exact ⟨.inl F.Lo,fun o vs ho hd=>nomatch ((congrArg Obj.data (Sj (hL.symm.trans ho))).symm.trans hx).symm.trans hd⟩
  obtain ⟨R',e⟩:=R.turn (g':=g) (h':=h') (s.toks+1) (fun a=>a=env.locals) hxo (fun a ha=>ha ▸ F.Lz) (fun _ _=>rfl) (fun a ha=>ha ▸ F.Lo)
    (fun a o ho ha=>(hs.2 a ha).trans ho) (fun a o es n ha ho hd=>by subst ha;refine qa5 (hcc o ho) ?_;intro o' h5 h6;exact ⟨oL',es',ep',hL',hx',(Sj (hL'.symm.trans h5)) ▸ h6⟩)
  have up:∀av v,RV C.W g s.heap av v->RV C.W g h' av v:=fun av v r=>r.mono e hxo av (.inl fun a ha=>ha ▸ F.Lo) v
  refine hQ g _ R' (e.weak (X':=FX C.nm env) (Y':=noY) R.low (fun a o _ ha=>.inl ha) (fun n q=>q.elim)) ⟨F.kind,F.names,F.nd,F.glob,F.blt,F.code,F.Lo,F.Lz,⟨_,hn',fun j y av' h1 h2=>?_⟩,fun j y kd h1 h2=>?_,?_,F.inj⟩
  . rcases qc4 h2 with ⟨rfl,rfl⟩ | ⟨hj,h2⟩
    . obtain rfl:=(EM (Sj (hi.symm.trans h1))).1;exact ⟨v,if_pos rfl,up _ _ r⟩
    . refine qa5 (hm j y av' h1 h2) ?_;intro w h5 h6;exact ⟨w,(if_neg fun q=>hj (by subst q;exact F.nd j i y _ _ h1 hi)).trans h5,up _ _ h6⟩
  . refine qap (F.cell j y kd h1 h2) ?_;intro c ov h5 h6 h7 h8 h9;have hc:c≠env.locals:=fun q=>by subst q;rw[hL] at h7;obtain rfl:=Sj h7;exact nomatch hx
    refine ⟨c,ov,h5,h6,(hs.2 c hc).trans h7,h8,fun av' q=>?_⟩;rcases qc4 q with ⟨rfl,_⟩ | ⟨_,q⟩
    . obtain rfl:=(EM (Sj (hi.symm.trans h1))).2;exact nomatch h2
    . exact (h9 av' q).imp fun w q=>⟨q.1,up _ _ q.2⟩
  . rcases F.pl with q | q
    . exact .inl q
    . refine hp.symm.imp_right fun hp j av' h=>?_
      rcases qc4 h with ⟨_,rfl⟩ | ⟨_,h⟩
      . exact hp
      . exact q j av' h
theorem qeo (hi:C.nm[i]?=some (x,.cell))(hp:plain av=true){v:Value}(R:Rep C.W fr g σ s)(F:Fra C env m g s.heap)(r:RV C.W g s.heap av v){Q:Unit->Al->Prop}(hQ:∀g' s',Rep C.W fr g' σ s'->Evo C.W (FX C.nm env) noY g s.heap g' s'.heap->Fra C env (m.set i (some av)) g' s'.heap->Q () s'):wpAny (model C.W.prog C.W.w) A (E8 env x v) Q E s:=by
  refine qa5 (F.names i x _ hi) ?_;intro k' h3 h4;refine qap (F.cell i x .cell hi rfl) ?_;intro c ov h5 h6 h7 h8 h9;have hplm:∀(i:Nat) (av:AV),m[i]?=some (some av)->plain av=true:=F.pl.resolve_left fun q=>q i x hi
  have hcell:GO env x=pure c:=by unfold GO;rw[h5]
  have hxo:XOk (fun a=>a=c) g s.heap:=fun a ha=>by
    subst ha;exact ⟨h8.imp id fun q=>⟨q,_,h7⟩,fun o vs ho hd=>nomatch (congrArg Obj.data (Sj (h7.symm.trans ho))).trans hd⟩
  have hself:(s.heap.update c fun o=>{ o with data:=.cell (some v) }).get? c=some (qay (some v)):=by
    first | exact Bc _ h7 rfl | exact Bc (fun o=>{ o with data:=.cell (some v) }) h7 rfl
  have hs:AQ c s.heap (s.heap.update c fun o=>{ o with data:=.cell (some v) }):=Bj ..;obtain ⟨R',e⟩:=R.turn (g':=qc6 g c .other) (h':=s.heap.update c fun o=>{ o with data:=.cell (some v) }) s.toks (fun a=>a=c) hxo (fun a ha=>ha ▸ h6) (fun a ha=>qa9 ha) (fun a ha=>ha ▸ qa4)
    (fun a o ho ha=>(hs.2 a ha).trans ho) (fun a o es n ha ho hd=>by subst ha;exact nomatch (congrArg Obj.data (Sj (h7.symm.trans ho))).trans hd)
  have up:∀av u,plain av=true->RV C.W g s.heap av u->RV C.W (qc6 g c .other) (s.heap.update c fun o=>{ o with data:=.cell (some v) }) av u:=fun av u hp r=>r.mono e hxo av (.inr hp) u
  have fin:wpAny (model C.W.prog C.W.w) A (cellSet c (some v)) Q E s:=by
    unfold cellSet;refine Aa (EG h7 ?_);refine wpAny_update h7 (hQ _ _ R' (e.weak R.low (fun a o _ ha=>.inr ⟨i,x,hi,by rw[ha];exact h5⟩) (fun n q=>q.elim)) ?_);refine qa5 F.ns ?_;intro mh hn hm;refine qar hn ?_;intro oL es ep hL hx hr;have hcL:env.locals≠c:=fun q=>by rw[q,h7] at hL;obtain rfl:=Sj hL;exact nomatch hx
    refine ⟨F.kind,F.names,F.nd,F.glob,F.blt,F.code,by rw[qa9 hcL];exact F.Lo,F.Lz,⟨mh,⟨oL,es,ep,(hs.2 _ hcL).trans hL,hx,hr⟩,fun j y av' h1 h2=>?_⟩,fun j y kd h1 h2=>?_,.inr fun j av' h=>?_,F.inj⟩
    . rcases qc4 h2 with ⟨rfl,_⟩ | ⟨_,h2⟩
      . exact nomatch (EM (Sj (hi.symm.trans h1))).2
      . exact (hm j y av' h1 h2).imp fun w q=>⟨q.1,up _ _ (hplm j av' h2) q.2⟩
    . by_cases hj:j=i
      . subst hj;obtain ⟨rfl,rfl⟩:=EM (Sj (hi.symm.trans h1));refine ⟨c,some v,h5,h6,hself,.inl qa4,fun av' q=>?_⟩;rcases qc4 q with ⟨_,rfl⟩ | ⟨q,_⟩
        . exact ⟨v,rfl,up _ _ hp r⟩
        . exact absurd rfl q
      . refine qap (F.cell j y kd h1 h2) ?_;intro c' ov' h10 h11 h12 h13 h14;have hcc:c'≠c:=fun q=>by subst q;exact hj (F.inj i j x y kd c' hi h1 h2 h5 h10).symm
        refine ⟨c',ov',h10,h11,(hs.2 _ hcc).trans h12,by rw[qa9 hcc];exact h13,fun av' q=>?_⟩;have q:=(qc4 q).resolve_left fun q=>hj q.1
        exact (h14 av' q.2).imp fun w z=>⟨z.1,up _ _ (hplm j av' q.2) z.2⟩
    . rcases qc4 h with ⟨_,rfl⟩ | ⟨_,h⟩
      . exact hp
      . exact hplm j av' h
  unfold E8;cases k' with
  | «local»=>cases h4
  | globalExplicit=>cases h4
  | globalImplicit=>cases h4
  | cell=>simp[h3,F.kind,hcell];exact fin
  | free=>simp[h3,F.kind,hcell];exact fin
theorem Ibz (hi:C.nm[i]?=some (x,.local))(hp:plain av=true):As C k fr m σ (.Name x p) av (m.set i (some av)) σ:=fun A env g s v rm R F r Q E hQ=>by
  show wpAny _ A (Dd p >>= fun _=>EO env x v) Q E s;exact Aa (AP (Cy (qbt hi (.inl hp) R F r fun g1 s1a R1 e1a F1=>hQ g1 s1a R1 e1a.toY F1)))
theorem Idc (hi:C.nm[i]?=some (x,.cell))(hp:plain av=true):As C k fr m σ (.Name x p) av (m.set i (some av)) σ:=fun A env g s v rm R F r Q E hQ=>by
  show wpAny _ A (Dd p >>= fun _=>EO env x v) Q E s;exact Aa (AP (Cy (qeo hi hp R F r fun g1 s1a R1 e1a F1=>hQ g1 s1a R1 e1a.toY F1)))
theorem Ia5 (he:Ev C k fr m σ e v z1)(ht:As C k fr m z1 t v m' z')(hsw:autoParam (∀env,FJ [t] e p.line env=pure false) ap0._auto_1)(hst:autoParam (∀env,DB [t] e env=pure none) ap0._auto_1)(hta:autoParam (∀env,(CR [t] env).map (·.2)=[PySem.assign t env]) ap0._auto_1):
    Ex C k fr m σ (.Assign [t] e p) .next m' z':=fun A env g s rm R F Q E hQ=>by
  refine CE (he A env g s rm R F _ _ fun v' g1 s1a R1 e1a rv=>?_) (hsw env) (hst env);show wpAny _ A (GJ v' ((CR [t] env).map (·.2))) _ _ _;rw[hta];exact ht A env g1 s1a v' rm R1 (F.up e1a) rv _ _ fun g2 s2 R2 e2a F2=>hQ _ g2 s2 R2 (e1a.toX.trans e2a) F2 rfl
theorem Iaj (he:Ev C k fr m σ e v z'):Ex C k fr m σ (.Return (some e) p) (.ret v) m z':=fun A env g s rm R F Q E hQ=>
  wpAny_Return_some (he A env g s rm R F _ _ fun v' g1 s1a R1 e1a rv=>hQ _ g1 s1a R1 e1a.toX (F.up e1a) ⟨v',rfl,rv⟩)
theorem Ia7 {a b:List Stmt}{c:Bool}{fl:AFl}(ht:Tr C k fr m σ t c z1)(ha:c=true->Exs C k fr m z1 a fl m' z')(hb:c=false->Exs C k fr m z1 b fl m' z'):Ex C k fr m σ (.If t a b p) fl m' z':=fun A env g s rm R F Q E hQ=>by
  refine wpAny_If (ht A env g s rm R F _ _ fun g1 s1a R1 e1a=>?_);cases c with
  | true=>exact ha rfl A env g1 s1a rm R1 (F.up e1a) Q E fun f' g2 s2 R2 e2a F2 hf=>hQ f' g2 s2 R2 (e1a.toX.trans e2a) F2 hf
  | false=>exact hb rfl A env g1 s1a rm R1 (F.up e1a) Q E fun f' g2 s2 R2 e2a F2 hf=>hQ f' g2 s2 R2 (e1a.toX.trans e2a) F2 hf
theorem Ido:Ex C k fr m σ (.Break p) .brk m σ:=fun A env g s rm R F Q E hQ=>
  show wpAny _ A (Dd p >>= fun _=>pure .brk) Q E s from Aa (AP (Ag (hQ _ g s R Evo.refl F rfl)))
theorem Idb {np:Pos}{op:Operator}{a b:AV}(hi:C.nm[i]?=some (x,.local))(ha:m[i]?=some (some a))(he:Ev C k fr m σ e b z1)(ho:Op2 C.W C.Y k fr z1 (inplaceOp op) a b v z')(hp:plain v=true):
    Ex C k fr m σ (.AugAssign (.Name x np) op e p) .next (m.set i (some v)) z':=fun A env g s rm R F Q E hQ=>by
  refine qa5 (F.ns) ?_;intro mh hn hm;refine qa5 (hm i x a hi ha) ?_;intro w h1 h2;refine qa5 (F.names i x _ hi) ?_;intro k' h3 h4;have:k'=.local:=by cases k' <;> first | rfl | (exact absurd h4 (by decide))
  subst this;refine wpAny_AugAssign_Name (EN F.kind h3 hn h1 (he A env g s rm R F _ _ fun vb g1 s1a R1 e1a rb=>ho A g1 s1a w vb rm R1 (h2.up e1a) rb _ _ fun v' g2 s2 R2 e2a rv=>?_));exact qbt hi (.inl hp) R2 ((F.up e1a).up e2a) rv fun g3 s3 R3 e3a F3=>hQ _ g3 s3 R3 ((e1a.trans e2a).toX.trans e3a.toY) F3 rfl
end
end
variable {fl:AFl}
section
section
inductive Binds (nm:List (Str×Ax)):List Str->List AV->List (Option AV)->List (Option AV)->Prop
  | nil {m:List (Option AV)}:Binds nm [] [] m m
  | cons {x:Str} {xs:List Str} {v:AV} {vs:List AV} {i:Nat} {kd:Ax} {m m'} (hi:nm[i]?=some (x,kd)) (hk:kd=.local\/kd=.cell) (hp:plain v=true\/∀(i:Nat) (x:Str),nm[i]?≠some (x,.cell))
      (r:Binds nm xs vs (m.set i (some v)) m'):Binds nm (x::xs) (v::vs) m m'
theorem Binds.plains (B:Binds nm xs vs m m'):(∀(i:Nat) (x:Str),nm[i]?≠some (x,.cell))\/Mine.plains vs=true:=by
  induction B with
  | nil=>exact .inr rfl
  | cons hi hk hp r ih=>
    rcases ih with q | q
    . exact .inl q
    . rcases hp with p | p
      . exact .inr (by show (plain _&&Mine.plains _)=true;rw[p,q];rfl)
      . exact .inl p
theorem qqa (F:Fra C env m g h)(hn:∀(i:Nat) (x:Str),C.nm[i]?≠some (x,.cell)):∀a,FX C.nm env a->g a=.other:=fun a ha=>by
  rcases ha with rfl | ⟨i,x,hi,_⟩
  . exact F.Lo
  . exact absurd hi (hn i x)
theorem qgg:∀{xs:List Str} {vs:List AV} {m m':List (Option AV)} {g:Addr->Own} {s:Al} {us:List Value} (B:Binds C.nm xs vs m m')
    (R:Rep C.W fr g σ s) (F:Fra C env m g s.heap) (r:RVs C.W g s.heap vs us) {Q:PUnit->Al->Prop}
    (hQ:∀g' s',Rep C.W fr g' σ s'->Evo C.W (FX C.nm env) noY g s.heap g' s'.heap->Fra C env m' g' s'.heap->Q ⟨⟩ s') (f:Str×Value->PUnit->Sem (ForInStep PUnit))
    (hf:∀x u,f x u=(do E8 env x.1 x.2;pure (.yield ⟨⟩))),wpAny (model C.W.prog C.W.w) A (forIn (xs.zip us) ⟨⟩ f) Q E s:=by
  intro xs;induction xs with
  | nil=>
    intro vs m m' g s us B R F r Q hQ f hf;cases B
    rw[List.zip_nil_left,Dh];exact Ag (hQ g s R Evo.refl F)
  | cons x xs ih=>
    intro vs m m' g s us B R F r Q hQ f hf;cases B with
    | cons hi hk hp B=>
      refine qa1 (r) ?_;intro u us' eq_0_2 r1 r2;subst eq_0_2;rw[A9,Cj,hf];have go:∀g' s',Rep C.W fr g' σ s'->Evo C.W (FX C.nm env) noY g s.heap g' s'.heap->Fra C env _ g' s'.heap->_:=fun g' s' R' e' F'=>
        ih B R' F' (r2.mono e' F.xok _ (B.plains.imp (fun q=>qqa F q) id) _) (fun g'' s'' R'' e'' F''=>hQ g'' s'' R'' (e'.trans e'') F'') f hf
      rcases hk with rfl | rfl
      . exact Aa (Aa (qbt hi hp R F r1 fun g' s' R' e' F'=>Ag (go g' s' R' e' F')))
      . exact Aa (Aa (qeo hi (hp.resolve_right fun q=>q _ _ hi) R F r1 fun g' s' R' e' F'=>Ag (go g' s' R' e' F')))
theorem qoh:∀(names:List (Str×Ax)) (cl:List (Str×Addr)) (g:Addr->Own) (s:Al) (f:Str×Ax->List (Str×Addr)->Sem (ForInStep (List (Str×Addr)))) (Q:List (Str×Addr)->Al->Prop),
    (∀x c,f x c=(if x.2==.cell then do let a <- alloc { cls:=.type "cell",data:=.cell none };pure (.yield ((x.1,a)::c)) else pure (.yield c))) ->
    (∀(i j:Nat) (x:Str) (k k':Ax),names[i]?=some (x,k)->names[j]?=some (x,k')->i=j)->Rep W fr g σ s ->
    (∀cl' s',Rep W fr g σ s'->Evo W noX noY g s.heap g s'.heap->(∀a o,s.heap.get? a=some o->s'.heap.get? a=some o) ->
      (∀x,(∀(i:Nat),names[i]?≠some (x,.cell))->cl'.lookup x=cl.lookup x) ->
      (∀(i:Nat) (x:Str),names[i]?=some (x,.cell)->∃c,cl'.lookup x=some c/\s.heap.get? c=none/\s'.heap.get? c=some (qay none)) ->
      (∀(i j:Nat) (x y:Str) (c:Addr),names[i]?=some (x,.cell)->names[j]?=some (y,.cell)->cl'.lookup x=some c->cl'.lookup y=some c->i=j)->Q cl' s') ->
    wpAny (model W.prog W.w) A (forIn names cl f) Q E s:=by
  intro names;induction names with
  | nil=>
    intro cl g s f Q hf hd R hQ;rw[Dh];exact Ag (hQ cl s R Evo.refl (fun _ _ h=>h) (fun _ _=>rfl) (fun i x h=>by simp at h) (fun i j x y c h=>by simp at h))
  | cons p names ih=>
    intro cl g s f Q hf hd R hQ;obtain ⟨x,kd⟩:=p;have hd':∀(i j:Nat) (x:Str) (k k':Ax),names[i]?=some (x,k)->names[j]?=some (x,k')->i=j:=fun i j x k k' h1 h2=>by
      have:=hd (i+1) (j+1) x k k' (by simpa using h1) (by simpa using h2);lia
    have hx:∀(j:Nat) (k':Ax),names[j]?≠some (x,k'):=fun j k' h=>by
      have:=hd 0 (j+1) x kd k' rfl (by simpa using h);lia
    rw[Cj,hf];by_cases hk:kd=.cell
    . subst hk;simp only[beq_self_eq_true,if_true];refine AD ?_ (R.push (qay none) .other rfl (.inr rfl));intro R1 e1a;have hgo:qc6 g s.heap.objs.size .other=g:=by
        funext a
        by_cases ha:a=s.heap.objs.size
        . subst ha;rw[qa4,R.top]
        . exact qa9 ha
      rw[hgo] at R1 e1a;refine Aa (Aa (Gx (Ag (ih _ g _ f Q hf hd' R1 fun cl' s' R' e' hk' hl hn hj=>?_))));have up:∀a o,s.heap.get? a=some o->s'.heap.get? a=some o:=fun a o ho=>hk' a o (Au _ ho)
      have hxl:cl'.lookup x=some s.heap.objs.size:=by rw[hl x (fun i=>hx i _)];simp
      refine hQ cl' s' R' (e1a.trans e') up (fun y hy=>?_) (fun i y hy=>?_) (fun i j y z c hy hz h1 h2=>?_)
      . rw[hl y fun i h=>hy (i+1) (by simpa using h)];have hne:(y==x)=false:=by
          have:y≠x:=fun q=>by subst q;exact hy 0 rfl
          simpa using this
        rw[AU,hne]
      . cases i with
        | zero=>
          simp at hy;subst hy;exact ⟨_,hxl,qai _,hk' _ _ (Ar _ rfl)⟩
        | succ i=>
          refine qaj (hn i y (by simpa using hy)) ?_;intro c h1 h2 h3;refine ⟨c,h1,?_,h3⟩;cases q:s.heap.get? c with
          | none=>rfl
          | some o=>have:=Au (qay none) q;rw[h2] at this;cases this
      . cases i with
        | zero=>
          cases j with
          | zero=>rfl
          | succ j=>
            exfalso
            simp at hy;subst hy;rw[hxl] at h1;obtain rfl:=Sj h1;refine qaj (hn j z (by simpa using hz)) ?_;intro c h4 h5 h6;rw[h2] at h4;obtain rfl:=Sj h4;rw[Ar _ rfl] at h5;cases h5
        | succ i=>
          cases j with
          | zero=>
            exfalso
            simp at hz;subst hz;rw[hxl] at h2;obtain rfl:=Sj h2;refine qaj (hn i y (by simpa using hy)) ?_;intro c h4 h5 h6;rw[h1] at h4;obtain rfl:=Sj h4;rw[Ar _ rfl] at h5;cases h5
          | succ j=>
            have:=hj i j y z c (by simpa using hy) (by simpa using hz) h1 h2;lia
    . have hk':(kd==Ax.cell)=false:=by simpa using hk
      simp only[hk',AY,if_false];refine Aa (Ag (ih _ g _ f Q hf hd' R fun cl' s' R' e' up hl hn hj=>hQ cl' s' R' e' up (fun y hy=>hl y fun i h=>hy (i+1) (by simpa using h)) (fun i y hy=>?_) (fun i j y z c hy hz h1 h2=>?_)))
      . cases i with
        | zero=>simp at hy;exact absurd hy.2 hk
        | succ i=>exact hn i y (by simpa using hy)
      . cases i with
        | zero=>simp at hy;exact absurd hy.2 hk
        | succ i=>
          cases j with
          | zero=>simp at hz;exact absurd hz.2 hk
          | succ j=>have:=hj i j y z c (by simpa using hy) (by simpa using hz) h1 h2;lia
theorem Rep.cons (R:Rep C.W fr g σ s)(F:Fra C env m g s.heap)(hf:env.frame=some env.locals)(hcl:∃o,s.heap.get? env.locals=some o/\o.cls=.type "frame"):Rep C.W (env::fr) g σ s:=
  { R with frs:=fun e he=>(by
      rcases AS.mp he with rfl | he
      . refine qa5 (F.ns) ?_;intro mh ne_6_1 _;refine qar ne_6_1 ?_;intro oL es ep hL hLd _;refine qa5 (hcl) ?_;intro o ho hc;rw[hL] at ho;obtain rfl:=Sj ho;exact ⟨_,oL,es,ep,hf,hL,hLd,F.Lo,hc,F.Lz,by rw[F.kind];exact nofun⟩
      . exact R.frs e he) }
def quh (C:Cx) (cl:List (Str×Addr)) (m:List (Option AV)) (g:Addr->Own) (h:Heap):Prop:=
  ∀(i:Nat) (x:Str) (k:Ax),C.nm[i]?=some (x,k)->(k=.free->∃c ov,cl.lookup x=some c/\C.W.s1.heap.get? c=none/\h.get? c=some (qay ov)/\(g c=.other\/g c=.fz) /\
    ∀av,m[i]?=some (some av)->∃v,ov=some v/\RV C.W g h av v)/\(k≠.free->∀av,m[i]?≠some (some av))
theorem qcs {closure:List (Str×Addr)}{us:List Value}{qual:Str}{func:Option Addr}{code:Value}{around:Option Env}{m0:List (Option AV)}{Q:Env->Al->Prop}(hnm:C.nm=scope.names)(hnd:∀(i j:Nat) (x:Str) (k k':Ax),C.nm[i]?=some (x,k)->C.nm[j]?=some (x,k')->i=j)(hk:scope.kind=.function)(hlk:∀(i:Nat) (x:Str) (k:Ax),C.nm[i]?=some (x,k)->scope.names.lookup x=some k)(hcd:(match around with | some o=>o.code | none=>code)=C.cd)(hbl:∀o,around=some o->o.builtins=Bm)(R:Rep C.W fr g σ s)(hfree:quh C closure m0 g s.heap)(hpl:(∀(i:Nat) (x:Str),C.nm[i]?≠some (x,.cell))\/∀(i:Nat) (av:AV),m0[i]?=some (some av)->plain av=true)(B:Binds C.nm xs vs m0 m1)(hr:RVs C.W g s.heap vs us)(hml:m0.length=C.nm.length)(hQ:∀env g' s',Rep C.W fr g' σ s'->Evo C.W noX noY g s.heap g' s'.heap->Fra C env m1 g' s'.heap->env.scope=scope->s.heap.get? env.locals=none->(∀x,(∀(i:Nat),C.nm[i]?≠some (x,.cell))->env.cells.lookup x=closure.lookup x) ->
      (∀(i:Nat) (x:Str) (c:Addr),C.nm[i]?=some (x,.cell)->env.cells.lookup x=some c->s.heap.get? c=none)->(around=none->env.frame=some env.locals/\env.func=func)->(∀o,around=some o->env.frame=o.frame)->(around=none->Rep C.W (env::fr) g' σ s')->Q env s'):
    wpAny (model C.W.prog C.W.w) A (Gy scope Bk closure (xs.zip us) qual func code around Bm) Q E s:=by
  have key:∀(cls:String) (mk:Addr->List (Str×Addr)->Env),(∀L cl,(mk L cl).scope=scope/\(mk L cl).locals=L/\(mk L cl).globals=Bk/\(mk L cl).builtins=Bm/\(mk L cl).cells=cl/\(mk L cl).code=C.cd /\
        (around=none->(mk L cl).frame=some L/\(mk L cl).func=func)/\∀o,around=some o->(mk L cl).frame=o.frame)->(around=none->cls="frame") ->
      wpAny (model C.W.prog C.W.w) A (do
        let locals <- alloc { cls:=.type cls,data:=.dict #[] }
        let cells <- forIn scope.names closure fun x c=>(if x.2==.cell then do let a <- alloc { cls:=.type "cell",data:=.cell none };pure (.yield ((x.1,a)::c)) else pure (.yield c):Sem (ForInStep (List (Str×Addr))))
        let _ <- forIn (xs.zip us) Ce fun x u=>(do E8 (mk locals cells) x.1 x.2;pure (.yield Ce):Sem (ForInStep PUnit))
        pure (mk locals cells)) Q E s:=by
    intro cls mk hmk hcls;have htop:=R.top;obtain ⟨R1,e1a⟩:=R.push { cls:=.type cls,data:=.dict #[] } .other rfl (.inr rfl);have hgo:qc6 g s.heap.objs.size .other=g:=by
      funext a
      by_cases ha:a=s.heap.objs.size
      . subst ha;rw[qa4,htop]
      . exact qa9 ha
    rw[hgo] at R1 e1a;refine Aa (Gx (Aa ?_));refine qoh scope.names closure g _ _ _ (fun _ _=>rfl) (fun i j x k k' h1 h2=>hnd i j x k k' (by rw[hnm];exact h1) (by rw[hnm];exact h2)) R1 fun cl' s2 R2 e2a up hl hn hj=>?_
    refine qn7 (hmk s.heap.objs.size cl') ?_;intro q1 q2 q3 q4 q5 q6 q7 q8;have hL:s2.heap.get? s.heap.objs.size=some { cls:=.type cls,data:=.dict #[] }:=up _ _ (Ar _ rfl);have e12:=e1a.trans e2a;have hkeep:∀a o,s.heap.get? a=some o->s2.heap.get? a=some o:=fun a o ho=>up a o (Au _ ho)
    have hs1:∀a,s.heap.get? a=none->C.W.s1.heap.get? a=none:=fun a ha=>by
      cases q:C.W.s1.heap.get? a with
      | none=>rfl
      | some o=>
        by_cases ht:C.W.tab a
        . refine qa5 (R.tabs a ht) ?_;intro more h2 _;rw[ha] at h2;cases h2
        . have:=R.base a o q ht;rw[ha] at this;cases this
    have hg0:∀a,s.heap.get? a=none->g a=.other:=fun a ha=>CU fun q=>by
      obtain ⟨o,ho⟩:=R.low a q;rw[ha] at ho;cases ho
    have hcl:∀(i:Nat) (x:Str),C.nm[i]?=some (x,.cell)->∃c,cl'.lookup x=some c/\s.heap.get? c=none/\s2.heap.get? c=some (qay none):=fun i x hi=>by
      refine qaj (hn i x (by rw[<- hnm];exact hi)) ?_;intro c h1 h2 h3;refine ⟨c,h1,?_,h3⟩;cases q:s.heap.get? c with
      | none=>rfl
      | some o=>have:=Au ({ cls:=.type cls,data:=.dict #[] }:Obj) q;rw[h2] at this;cases this
    have hnc:∀(i:Nat) (x:Str),C.nm[i]?=some (x,.free)->cl'.lookup x=closure.lookup x:=fun i x hi=>hl x fun j q=>by
      have:=hnd i j x _ _ hi (by rw[hnm];exact q);subst this;rw[hnm] at hi;rw[hi] at q;cases q
    have F2:Fra C (mk s.heap.objs.size cl') m0 g s2.heap:=by
      refine ⟨by rw[q1];exact hk,fun i x kd hi=>⟨kd,by unfold Env.kindOf;rw[q1];exact hlk i x kd hi,rfl⟩,hnd,q3,q4,q6,by rw[q2];exact htop,by rw[q2];exact hs1 _ (qai _),⟨fun _=>none,by
          rw[q2];exact ⟨_,#[],0,hL,rfl,fun _ he=>by simp at he,fun _=>rfl⟩,fun i x av h1 h2=>absurd h2 ((hfree i x _ h1).2 nofun av)⟩,fun i x kd h1 h2=>?_,hpl,fun i j x y kd c h1 h2 h3 h4 h5=>?_⟩
      . rw[q5];cases kd with
        | «local»=>cases h2
        | globalExplicit=>cases h2
        | globalImplicit=>cases h2
        | cell=>
          refine qaj (hcl i x h1) ?_;intro c h3 h4 h5;exact ⟨c,none,h3,hs1 c h4,h5,.inl (hg0 c h4),fun av q=>absurd q ((hfree i x _ h1).2 nofun av)⟩
        | free=>
          refine qap ((hfree i x _ h1).1 rfl) ?_;intro c ov h3 h4 h5 h6 h7;refine ⟨c,ov,by rw[hnc i x h1];exact h3,h4,hkeep _ _ h5,h6,fun av q=>?_⟩;refine qa5 (h7 av q) ?_;intro v h8 h9;exact ⟨v,h8,h9.up e12⟩
      . rw[q5] at h4 h5;cases kd with
        | «local»=>cases h3
        | globalExplicit=>cases h3
        | globalImplicit=>cases h3
        | cell=>exact hj i j x y c (by rw[<- hnm];exact h1) (by rw[<- hnm];exact h2) h4 h5
        | free=>
          exfalso
          refine qaj (hcl i x h1) ?_;intro c1 h6 h7 h8;refine qb3 ((hfree j y _ h2).1 rfl) ?_;intro c2 ov h9 h10 h11 _;rw[hnc j y h2,h9] at h5;obtain rfl:=Sj h5;rw[h4] at h6;obtain rfl:=Sj h6;rw[h7] at h11;cases h11
    have fin:∀g3 s3,Rep C.W fr g3 σ s3->(around=none->Rep C.W (mk s.heap.objs.size cl'::fr) g3 σ s3)->Evo C.W (FX C.nm (mk s.heap.objs.size cl')) noY g s2.heap g3 s3.heap->Fra C (mk s.heap.objs.size cl') m1 g3 s3.heap->Q (mk s.heap.objs.size cl') s3:=fun g3 s3 R3 hRc e3a F3=>by
      have hfresh:∀a o,s.heap.get? a=some o->¬FX C.nm (mk s.heap.objs.size cl') a:=fun a o ho ha=>by
        rcases ha with rfl | ⟨i,x,hi,hc⟩
        . rw[q2] at ho;rw[qai] at ho;cases ho
        . rw[q5] at hc;refine qaj (hcl i x hi) ?_;intro c h1 h2 h3;rw[hc] at h1;obtain rfl:=Sj h1;rw[h2] at ho;cases ho
      have e13:Evo C.W noX noY g s.heap g3 s3.heap:=(e12.toX.trans e3a).weak R.low (fun a o ho ha=>hfresh a o ho ha) (fun _ q=>q);exact hQ _ g3 s3 R3 e13 F3 q1 (by rw[q2];exact qai _) (fun x hx=>by rw[q5];exact hl x fun i h=>hx i (by rw[hnm];exact h)) (fun i x c hi hc=>by
        rw[q5] at hc;refine qaj (hcl i x hi) ?_;intro c' h1 h2 h3;rw[hc] at h1;obtain rfl:=Sj h1;exact h2) (fun h=>by rw[q2];exact q7 h) q8 hRc
    by_cases ha:around=none
    . have R2':=R2.cons F2 ((q7 ha).1.trans (by rw[q2])) ⟨_,by rw[q2];exact hL,by rw[hcls ha]⟩;exact Aa (qgg B R2' F2 (hr.up e12) (fun g3 s3 R3 e3a F3=>Ag (fin g3 s3 (R3.fewer fun e he=>Az _ he) (fun _=>R3) e3a F3)) _ fun _ _=>rfl)
    . exact Aa (qgg B R2 F2 (hr.up e12) (fun g3 s3 R3 e3a F3=>Ag (fin g3 s3 R3 (fun h=>absurd h ha) e3a F3)) _ fun _ _=>rfl)
  unfold Gy;cases around with
  | none=>
    have:=key "frame" (fun L cl=>{ scope,locals:=L,globals:=Bk,cells:=cl,qual,func,code,frame:=some L,builtins:=Bm }) (fun L cl=>⟨rfl,rfl,rfl,rfl,rfl,hcd,fun _=>⟨rfl,rfl⟩,(fun o h=>by cases h)⟩) fun _=>rfl
    exact this
  | some o=>
    have:=key "dict" (fun L cl=>{ scope,locals:=L,globals:=Bk,cells:=cl,qual,func,code:=o.code,frame:=o.frame,builtins:=o.builtins }) (fun L cl=>⟨rfl,rfl,rfl,hbl o rfl,rfl,hcd,(fun h=>by cases h),(fun o' h=>by obtain rfl:=Sj h;rfl)⟩) fun h=>by cases h
    exact this
end
end
section
structure qqt (C:Cx) (a:Addr) (fd:BS) (body:List Stmt):Prop where
  get:∃o,C.W.s1.heap.get? a=some o/\o.data=.func fd
  nt:¬C.W.tab a
  co:fd.scope.isCoroutine=false
  gen:fd.scope.isGenerator=false
  kind:fd.scope.kind=.function
  body:fd.body=.stmts body
  code:∃c o vs t,fd.code=.ref c/\C.W.s1.heap.get? c=some o/\¬C.W.tab c/\o.data=.fields vs/\vs[1]?=some (.str fd.qualname t)
  clo:fd.closure=[]
  glob:fd.globals=Bk
  blt:fd.builtins=Bm
  nm:C.nm=fd.scope.names
  nd:∀(i j:Nat) (x:Str) (k k':Ax),C.nm[i]?=some (x,k)->C.nm[j]?=some (x,k')->i=j
  lk:∀(i:Nat) (x:Str) (k:Ax),C.nm[i]?=some (x,k)->fd.scope.names.lookup x=some k
  cd:fd.code=C.cd
  nofree:∀(i:Nat) (x:Str),C.nm[i]?≠some (x,.free)
def qcu (W:Wd) (fd:BS) (args:List AV) (kn:List Str) (kv:List AV) (xs:List Str) (vs:List AV):Prop:=
  ∀(fr:List Env) (g:Addr->Own) (σ:List AObj) (s:Al) (us ks:List Value),Rep W fr g σ s->RVs W g s.heap args us->RVs W g s.heap kv ks->∃ws,BindsTo s fd ⟨us,kn.zip ks⟩ (xs.zip ws)/\RVs W g s.heap vs ws
section
theorem Evo.wkB {Y':Nat->Prop}(R:Rep W fr g σ s)(e:Evo W noX Y g s.heap g' h')(hY:∀n,n<σ.length->Y n->Y' n):Evo W noX Y' g s.heap g' h':=
  ⟨e.keep,fun a o n ho hg hy=>e.keepL a o n ho hg fun q=>hy (hY n (R.bnd a n hg) q),e.fz,e.loc,e.aux,e.oth,e.tabs⟩
noncomputable def qer:AFl->AV
  | .ret v=>v
  | _=>.none
noncomputable def quj (f:Flow):Value:=match f with | .ret v=>v | _=>.none
theorem qi5 {f:Flow}(r:RFl W g h fl f):RV W g h (qer fl) (quj f):=by
  cases fl with
  | next=>obtain rfl:f=.next:=r;exact (rfl:Value.none=Value.none)
  | brk=>obtain rfl:f=.brk:=r;exact (rfl:Value.none=Value.none)
  | cont=>obtain rfl:f=.cont:=r;exact (rfl:Value.none=Value.none)
  | ret v=>refine qa5 (r) ?_;intro v' eq_0_1 hv;subst eq_0_1;exact hv
end
end
section
section
def Kept (W:Wd) (f:AV):Prop:=∀(fr:List Env) (g:Addr->Own) (σ:List AObj) (s:Al) (v:Value),Rep W fr g σ s->RV W g s.heap f v ->
  ∃kp,(kp=F9\/kp=Fk\/kp=En)/\Looks (model W.prog W.w) s.heap (keeperOf v) kp
theorem Kept.builtin {id:String}:Kept W (.glob (.builtin id)):=fun fr g σ s v R r=>by
  obtain rfl:v=.builtin id:=r;exact ⟨.machine,.inr (.inl rfl),Looks.of_pure rfl⟩
theorem Kept.type {id:String}:Kept W (.glob (.type id)):=fun fr g σ s v R r=>by
  obtain rfl:v=.type id:=r;exact ⟨.machine,.inr (.inl rfl),Looks.of_pure rfl⟩
theorem Ict {fd:BS}(F:qqt C a fd body):Kept C.W (.glob (.ref a)):=fun fr g σ s v R r=>by
  obtain rfl:v=.ref a:=r;refine qa5 (F.get) ?_;intro o ho hd;refine ⟨.frame,.inl rfl,fun A Q E s' hk hq=>?_⟩;show wpAny _ A (load a >>= _) Q E s';refine Aa (EG (hk _ _ (R.base a o ho F.nt)) ?_);rw[hd];exact Ag hq
theorem Kept.bound {f:String}{sv:AV}:Kept W (.bound f sv):=fun fr g σ s v R r=>by
  refine qb3 (r) ?_;intro a u eq_2_2 hg ho _;subst eq_2_2;refine ⟨.machine,.inr (.inl rfl),fun A Q E s' hk hq=>?_⟩;show wpAny _ A (load a >>= _) Q E s';exact Aa (EG (hk _ _ ho) (Ag hq))
structure EvK (C:Cx) (k:Nat) (fr:List Env) (m:List (Option AV)) (σ:List AObj) (kws:List GK) (kn:List Str) (kv:List AV) (z':List AObj):Prop where
  names:∀env p,(Fl p (C7 kws env)).filterMap (·.1)=kn/\(Fl p (C7 kws env)).all (·.1.isSome)=true
  run:∀(A:BF) (env:Env) (g:Addr->Own) (s:Al) (p:Pos),Room k fr A->Rep C.W fr g σ s->Fra C env m g s.heap->∀(Q:List Value->Al->Prop) (E:Value->Al->Prop),
    (∀vs' g' s',Rep C.W fr g' z' s'->Evo C.W noX C.Y g s.heap g' s'.heap->RVs C.W g' s'.heap kv vs'->Q vs' s')->wpAny (model C.W.prog C.W.w) A (evalAll ((Fl p (C7 kws env)).map (·.2))) Q E s
theorem EvK.nil:EvK C k fr m σ [] [] [] σ:=⟨fun env p=>⟨rfl,rfl⟩,fun A env g s p rm R F Q E hQ=>Ag (hQ [] g s R Evo.refl rfl)⟩
theorem qd2 (n:Option Str)(e:Expr)(p:Pos)(r:List GK)(env:Env):C7 (⟨n,e,p⟩::r) env=(n,eval e env)::C7 r env:=rfl
theorem EvK.cons {q:Pos}{r:List GK}(he:Ev C k fr m σ e v z1)(hr:EvK C k fr m z1 r kn kv z'):EvK C k fr m σ (⟨some x,e,q⟩::r) (x::kn) (v::kv) z':=
  ⟨fun env p=>by
    rw[qd2];refine AD ?_ (hr.names env p);intro h1 h2;exact ⟨by show x::List.filterMap (·.1) (Fl p (C7 r env))=_;rw[h1],by show (true&&List.all (Fl p (C7 r env)) (·.1.isSome))=true;rw[h2];rfl⟩,fun A env g s p rm R F Q E hQ=>by
    rw[qd2];show wpAny _ A (evalAll ((do let v <- eval e env;Dd p;pure v)::(Fl p (C7 r env)).map (·.2))) Q E s;refine wpAny_evalAll_cons (Aa (he A env g s rm R F _ _ fun va g1 s1a R1 e1a ra=>Aa (AP (Ag ?_))));exact hr.run A env g1 s1a p rm R1 (F.up e1a) _ _ fun vs' g2 s2 R2 e2a rv=>hQ _ g2 s2 R2 (e1a.trans e2a) ⟨va,vs',rfl,ra.up e2a,rv⟩⟩
theorem qe2 {f:Value}{args:List (Bool×Sem Value)}{kws:List (Option Str×Sem Value)}{Q:Args->Al->Prop}(hpl:args.any (·.1)=false)(hall:kws.all (·.1.isSome)=true)(h:wpAny M A (spliced args) (fun vs s1a=>wpAny M A (evalAll (kws.map (·.2))) (fun ks s2=>Q ⟨vs,(kws.filterMap (·.1)).zip ks⟩ s2) E s1a) E s):wpAny M A (evalArgs f true args kws) Q E s:=by
  have fin:wpAny M A (spliced args >>= fun pos=>DQ (pos++[]) (do
      let kw:=(kws.filterMap (·.1)).zip (<- evalAll (kws.map (·.2)))
      return (⟨pos,kw⟩:Args))) Q E s:=by
    refine Aa (AB h (fun vs s1a h1a=>AK (Aa (AB h1a (fun ks s2 h2a=>Ag h2a) fun _ _ x=>x))) fun _ _ x=>x)
  cases args with
  | nil=>
    refine evalArgs_kw_nil hall ?_;exact fun Γ p hΓ=>(h Γ p hΓ:_) Γ p hΓ
  | cons a r=>
    obtain ⟨b,x⟩:=a;have hb:b=false:=by simp at hpl;exact hpl.1
    subst hb;exact evalArgs_kw hall h
theorem qgf {f:AV}{first:List AV}{kws:List GK}(hf:Kept C.W f)(ha:Evs C k fr m σ es args z1)(hk:EvK C k fr m z1 kws kn kv z2)(hc:Calls C.W C.Y k fr z2 f (first++args) kn kv v z')(hpl:∀env p,(Fg p (C6 es env)).any (·.1)=false){p':Pos}{vf:Value}{fs:List Value}(rm:Room k fr A)(R:Rep C.W fr g σ s)(F:Fra C env m g s.heap)(rf:RV C.W g s.heap f vf)(rs:RVs C.W g s.heap first fs)(hQ:∀v' g' s',Rep C.W fr g' z' s'->Evo C.W noX C.Y g s.heap g' s'.heap->RV C.W g' s'.heap v v'->Q v' s'):
    wpAny (model C.W.prog C.W.w) A (callWith p vf fs (Fg p' (C6 es env)) (Fl p' (C7 kws env))) Q E s:=by
  refine AD ?_ (hk.names env p');intro hn hal;refine callWith_of (P:=fun h=>∃kp,(kp=F9\/kp=Fk\/kp=En)/\Looks (model C.W.prog C.W.w) h (keeperOf vf) kp) ?_ (fun h q=>q) ?_
  . rw[hpl];simp only[FK,List.any_eq_false];intro q hq;have:=BZ.mp hal q hq;cases hq1:q.1 <;> simp_all
  . refine qe2 (hpl _ _) hal (ha A env g s p' rm R F _ _ fun vs g1 s1a R1 e1a rv=>hk.run A env g1 s1a p' rm R1 (F.up e1a) _ _ fun ks g2 s2 R2 e2a rk=>?_);rw[hn];refine ⟨hf fr g2 z2 s2 vf R2 ((rf.up e1a).up e2a),?_⟩;exact hc A g2 s2 vf (fs++vs) ks rm R2 ((rf.up e1a).up e2a) (((rs.up e1a).up e2a).append (rv.up e2a)) rk Q E fun v' g3 s3 R3 e3a r3=>hQ v' g3 s3 R3 ((e1a.trans e2a).trans e3a) r3
theorem Ev.call {q:Pos}{kws:List GK}{f:AV}(hn:Ev C k fr m σ (.Name x q) f z1)(hf:Kept C.W f)(ha:Evs C k fr m z1 es args z2)(hk:EvK C k fr m z2 kws kn kv z3)(hc:Calls C.W C.Y k fr z3 f args kn kv v z')(hpl:autoParam (∀env p,(Fg p (C6 es env)).any (·.1)=false) ap0._auto_1):Ev C k fr m σ (.Call (.Name x q) es kws p) v z':=fun A env g s rm R F Q E hQ=>by
  refine Ec (hn A env g s rm R F _ _ fun vf g1 s1a R1 e1a rf=>?_);exact qgf (first:=[]) hf ha hk hc hpl rm R1 (F.up e1a) rf rfl fun v' g2 s2 R2 e2a r2=>hQ v' g2 s2 R2 (e1a.trans e2a) r2
end
end
section
structure Priv (W:Wd) (g:Addr->Own) (h:Heap) (a:Addr):Prop where
  own:g a=.other
  new:W.s1.heap.get? a=none
  obj:∃o,h.get? a=some o/\(∀es n,o.data≠.dict es n)/\(∀v,o.data≠.cell v)/\(∀vs,o.data=.fields vs->o.cls≠.type "code")/\o.cls≠.type "frame"
section
variable {g2:Addr->Own} {s2:Al}
theorem Ib1 (h:W.s1.heap.get? a=none):¬W.tab a:=fun q=>by rw[W.tabEx a q] at h;cases h
theorem Priv.xok {C:Addr->Prop}(hC:∀a,C a->Priv W g h a):XOk C g h:=fun a ha=>
  ⟨.inl (hC a ha).own,fun o vs ho hd=>by
    refine qet ((hC a ha).obj) ?_;intro o' ho' _ _ hc _;rw[ho] at ho';obtain rfl:=Sj ho';exact hc vs hd⟩
theorem Rep.turn2 (R:Rep W fr g σ s)(tk:Nat)(C:Addr->Prop)(hC:∀a,C a->Priv W g s.heap a)(hg:∀a o,s.heap.get? a=some o->¬C a->g' a=g a)(hg':∀a,C a->g' a=.other\/(g' a=.fz/\∃o,h'.get? a=some o))(hn:∀a,s.heap.get? a=none->g' a=.other\/(g' a=.fz/\∃o,h'.get? a=some o))(hk:∀a o,s.heap.get? a=some o->¬C a->h'.get? a=some o):
    Rep W fr g' σ { s with heap:=h',toks:=tk }/\Evo W C noY g s.heap g' h':=by
  have hX:=Priv.xok hC;have hnC:∀{a:Addr},g a≠.other->¬C a:=fun {a} q hc=>q (hC a hc).own
  have hin:∀{a:Addr},g a≠.other->g' a=g a:=fun {a} q=>by refine Aq (R.low a q) ?_;intro o ho;exact hg a o ho (hnC q)
  have hcase:∀a,(∃o,s.heap.get? a=some o)\/s.heap.get? a=none:=fun a=>by cases s.heap.get? a with | none=>exact .inr rfl | some o=>exact .inl ⟨o,rfl⟩
  have hback:∀a,g' a=g a\/g' a=.other\/(g' a=.fz/\∃o,h'.get? a=some o):=fun a=>by
    rcases hcase a with ⟨o,ho⟩ | ho
    . by_cases hc:C a
      . exact .inr (hg' a hc)
      . exact .inl (hg a o ho hc)
    . exact .inr (hn a ho)
  have hlc:∀a k,g' a=.loc k->g a=.loc k:=fun a k q=>by
    rcases hback a with r | r | ⟨r,_⟩
    . rw[<- r];exact q
    . rw[r] at q;cases q
    . rw[r] at q;cases q
  have hla:∀a k,g' a=.aux k->g a=.aux k:=fun a k q=>by
    rcases hback a with r | r | ⟨r,_⟩
    . rw[<- r];exact q
    . rw[r] at q;cases q
    . rw[r] at q;cases q
  have hnb:∀{a o},W.s1.heap.get? a=some o->¬C a:=fun {a o} ho hc=>by rw[(hC a hc).new] at ho;cases ho
  have hnt:∀{a},W.tab a->¬C a:=fun {a} ht hc=>Ib1 (hC a hc).new ht
  have e:Evo W C noY g s.heap g' h':=⟨fun a o ho hx _=>.of (hk a o ho hx),fun a o n ho hq _=>hk a o ho (hnC (by rcases hq with q | q <;> rw[q] <;> exact nofun)),fun a q hx=>by rw[hin (by rw[q];exact nofun)];exact q,
    fun a n q=>by rw[hin (by rw[q];exact nofun)];exact q,fun a n q=>by rw[hin (by rw[q];exact nofun)];exact q,fun a o ho q hx=>.inl (by rw[hg a o ho hx];exact q),fun a o ht ho=>⟨o,hk a o ho (hnt ht)⟩⟩
  refine ⟨⟨fun a o ho ht=>hk a o (R.base a o ho ht) (hnb ho),fun a o ho=>?_,
    fun a ht=>?_,fun a ht=>?_,fun a ha=>?_,fun n ao ho=>?_,fun a b n qa qb=>R.uniq a b n (hlc a n qa) (hlc b n qb),R.pl,fun a n q=>R.bnd a n (q.imp (hlc a n) (hla a n)),fun en he=>?_,R.gens,R.os⟩,e⟩
  . by_cases ht:W.tab a
    . refine qa5 (R.tabs a ht) ?_;intro more h2 _;rw[hg a _ h2 (hnb ho)];exact R.baseO a o ho
    . rw[hg a _ (R.base a o ho ht) (hnb ho)];exact R.baseO a o ho
  . refine qa5 (R.tabs a ht) ?_;intro more h2 _;rw[hg a _ h2 (hnt ht)];exact R.tabO a ht
  . refine qaj (R.tabs a ht) ?_;intro more h2 h3 h4;exact ⟨more,hk a _ h2 (hnt ht),h3,fun pos v q=>(h4 pos v q).mono e hX⟩
  . rcases hback a with r | r | ⟨_,r⟩
    . rw[r] at ha;refine Aq (R.low a ha) ?_;intro o ho;exact ⟨o,hk a o ho (hnC ha)⟩
    . exact absurd r ha
    . exact r
  . refine qa5 (R.locs n ao ho) ?_;intro a qa hr;exact ⟨a,e.loc a n qa,hr.mono e hX (fun o q=>hk a o q (hnC (by rw[qa];exact nofun))) (fun d hd o q=>hk d o q (hnC (by rw[hd];exact nofun))) ao (R.pl n ao ho)⟩
  . refine qah (R.frs en he) ?_;intro f o es ep h1 h2 h3 h4 h5;have hc:¬C f:=fun hc=>by
      refine qaj ((hC f hc).obj) ?_;intro o' ho' q _;rw[h2] at ho';obtain rfl:=Sj ho';exact q _ _ h3
    exact ⟨f,o,es,ep,h1,hk f o h2 hc,h3,by rw[hg f o h2 hc];exact h4,h5⟩
theorem Ib0 (R:Rep W fr g σ s)(e:Evo W noX Y g s.heap g2 s2.heap)(R2:Rep W fr g2 z' s2)(ha:s2.heap.get? a=none):s.heap.get? a=none:=by
  cases q:s.heap.get? a with
  | none=>rfl
  | some o=>
    exfalso
    have hlow:g2 a=.other:=CU fun r=>by refine Aq (R2.low a r) ?_;intro o ho;rw[ha] at ho;cases ho
    cases hg:g a with
    | fz=>rw[e.fz a hg fun x=>x] at hlow;cases hlow
    | loc n=>rw[e.loc a n hg] at hlow;cases hlow
    | aux n=>rw[e.aux a n hg] at hlow;cases hlow
    | other=>
      by_cases ht:W.tab a
      . refine Aq (e.tabs a o ht q) ?_;intro o' ho';rw[ha] at ho';cases ho'
      . refine qa5 ((e.keep a o q (fun x=>x) (.inr ⟨hg,ht⟩)).ex) ?_;intro o' ho' _;rw[ho'] at ha;cases ha
theorem Rep.new1 (R:Rep W fr g σ s)(ha:s.heap.get? a=none):W.s1.heap.get? a=none:=by
  cases q:W.s1.heap.get? a with
  | none=>rfl
  | some o=>
    by_cases ht:W.tab a
    . refine qa5 (R.tabs a ht) ?_;intro more h2 _;rw[ha] at h2;cases h2
    . have:=R.base a o q ht;rw[ha] at this;cases this
theorem Rep.newO (R:Rep W fr g σ s)(ha:s.heap.get? a=none):g a=.other:=CU fun q=>by
  refine Aq (R.low a q) ?_;intro o ho;rw[ha] at ho;cases ho
theorem Priv.keep (F:Fra C env m g h)(e:Evo C.W (FX C.nm env) C.Y g h g' h')(p:Priv C.W g h a)(ho:h.get? a=some o):h'.get? a=some o/\Priv C.W g' h' a:=by
  refine qbx (p.obj) ?_;intro o' ho' hd hc hk;rw[ho] at ho';obtain rfl:=Sj ho';have hx:¬FX C.nm env a:=fun hx=>by
    rcases hx with rfl | ⟨i,x,hi,hcl⟩
    . refine qa5 (F.ns) ?_;intro mh ne_15_1 _;refine qar ne_15_1 ?_;intro oL es ep hL hLd _;rw[ho] at hL;obtain rfl:=Sj hL;exact hd _ _ hLd
    . refine qb3 (F.cell i x .cell hi rfl) ?_;intro c ov h3 h4 h5 _;rw[hcl] at h3;obtain rfl:=Sj h3;rw[ho] at h5;obtain rfl:=Sj h5;exact hc _ rfl
  have h1:=(e.keep a o ho hx (.inr ⟨p.own,Ib1 p.new⟩)).get hk.2;refine ⟨h1,?_,p.new,o,h1,hd,hc,hk⟩;rcases e.oth a o ho p.own hx with q | ⟨_,v,q⟩
  . exact q
  . rw[h1] at q;obtain rfl:=Sj q;exact absurd rfl (hc v)
theorem Iat (e:Evo W noX Y g h g' h')(p:Priv W g h a)(ho:h.get? a=some o):h'.get? a=some o/\Priv W g' h' a:=by
  refine qbx (p.obj) ?_;intro o' ho' hd hc hk;rw[ho] at ho';obtain rfl:=Sj ho';have h1:=(e.keep a o ho (fun x=>x) (.inr ⟨p.own,Ib1 p.new⟩)).get hk.2;refine ⟨h1,?_,p.new,o,h1,hd,hc,hk⟩;rcases e.oth a o ho p.own (fun x=>x) with q | ⟨_,v,q⟩
  . exact q
  . rw[h1] at q;obtain rfl:=Sj q;exact absurd rfl (hc v)
theorem Fra.turn {X:Addr->Prop}(F:Fra C env m g h)(hX:∀a,X a->Priv C.W g h a)(e:Evo C.W X Y g h g' h'):Fra C env m g' h':=by
  have hXo:=Priv.xok hX;have up:∀av v,RV C.W g h av v->RV C.W g' h' av v:=fun av v r=>r.mono e hXo av (.inl fun a q=>(hX a q).own) v
  refine qa5 (F.ns) ?_;intro mh ne_18_1 hm;refine qar ne_18_1 ?_;intro oL es ep hL hLd r;have hxL:¬X env.locals:=fun q=>by
    refine qaj ((hX _ q).obj) ?_;intro o ho hd _;rw[hL] at ho;obtain rfl:=Sj ho;exact hd _ _ hLd
  refine qaj ((e.keep _ _ hL hxL (.inr ⟨F.Lo,qb6 F.Lz⟩)).ex) ?_;intro oL' hL' hLd' _;rw[hLd] at hLd';refine ⟨F.kind,F.names,F.nd,F.glob,F.blt,F.code,?_,F.Lz,⟨mh,⟨oL',es,ep,hL',hLd',r⟩,fun i x av h1 h2=>?_⟩,fun i x k h1 h2=>?_,F.pl,F.inj⟩
  . rcases e.oth _ _ hL F.Lo hxL with q | ⟨_,u,q⟩
    . exact q
    . rw[hL'] at q;obtain rfl:=Sj q;cases hLd'
  . refine qa5 (hm i x av h1 h2) ?_;intro v h3 h4;exact ⟨v,h3,up _ _ h4⟩
  . refine qap (F.cell i x k h1 h2) ?_;intro c ov h3 h4 h5 h6 h7;have hxc:¬X c:=fun q=>by
      refine qbx ((hX _ q).obj) ?_;intro o ho _ hc _;rw[h5] at ho;obtain rfl:=Sj ho;exact hc _ rfl
    have h5':h'.get? c=some (qay ov):=(e.keep _ _ h5 hxc (h6.symm.imp id fun q=>⟨q,qb6 h4⟩)).get;refine ⟨c,ov,h3,h4,h5',?_,fun av q=>?_⟩
    . rcases h6 with q | q
      . exact (e.oth _ _ h5 q hxc).imp id (·.1)
      . exact .inr (e.fz _ q hxc)
    . refine qa5 (h7 av q) ?_;intro v h8 h9;exact ⟨v,h8,up _ _ h9⟩
end
inductive AIt where
  | seq (v:AV) (l:List AV)
  | tup (l:List AV)
  | range (a c:Int) (n:Nat)
  | enum (v:AV) (l:List AV)
  | zip (v1:AV) (l1:List AV) (v2:AV) (l2:List AV)
noncomputable def AIt.items:AIt->List AV
  | .seq _ l=>l
  | .tup l=>l
  | .range a c n=>(Ac n).map fun i=>.int (a+(i:Nat)*c)
  | .enum _ l=>l.zipIdx.map fun p=>.tup [.int p.2,p.1]
  | .zip _ l1 _ l2=>List.zipWith (fun a b=>.tup [a,b]) l1 l2
noncomputable def AIt.Ok (σ:List AObj):AIt->Prop
  | .seq v l=>Lv σ v l
  | .enum v l=>Lv σ v l
  | .zip v1 l1 v2 l2=>Lv σ v1 l1/\Lv σ v2 l2
  | _=>True
noncomputable def AIt.plain:AIt->Bool
  | .seq v _=>Mine.plain v
  | .tup l=>Mine.plains l
  | .enum v _=>Mine.plain v
  | .zip v1 _ v2 _=>Mine.plain v1&&Mine.plain v2
  | .range ..=>true
noncomputable def AIt.pairs:AIt->Bool
  | .enum ..=>true
  | .zip ..=>true
  | _=>false
noncomputable def AIt.St (W:Wd) (g:Addr->Own) (h:Heap) (ws:List Addr) (it:Value) (i:Nat):AIt->Prop
  | .seq v l=>∃r la,it=.ref r/\ws=[r]/\RV W g h v (.ref la)/\h.IsListIter r la i
  | .tup l=>∃r la vs k,it=.ref r/\ws=[r]/\g la=.fz/\h.get? la=some (qkg vs k)/\RVs W g h l vs.toList/\h.IsTupleIter r la i
  | .range a c n=>∃r,it=.ref r/\ws=[r]/\IsRangeIter h r (a+(i:Nat)*c) ((n:Int) - (i:Nat)) c
  | .enum v l=>∃e r la,it=.ref e/\ws=[e,r]/\e≠r/\RV W g h v (.ref la)/\(∃old,IsEnum h e r i old)/\h.IsListIter r la i
  | .zip v1 l1 v2 l2=>∃z TI TO i1 i2 la lb,it=.ref z/\ws=[z,TI,TO,i1,i2]/\ws.Nodup/\RV W g h v1 (.ref la)/\RV W g h v2 (.ref lb) /\
      IsZip h z TI TO .none/\IsPair h TI (.ref i1) (.ref i2)/\(∃a b,IsPair h TO a b)/\h.IsListIter i1 la i/\h.IsListIter i2 lb i
theorem AIt.St.mono {X:Addr->Prop}(e:Evo W X Y g h g' h')(hX:XOk X g h)(hk:∀a∈ws,∀o,h.get? a=some o->h'.get? a=some o)(ai:AIt)(hp:(∀a,X a->g a=.other)\/ai.plain=true)(S:ai.St W g h ws it i):ai.St W g' h' ws it i:=by
  cases ai with
  | seq v l=>
    refine qb3 S ?_;intro r la h1 h2 h3 h4;subst h2;exact ⟨r,la,h1,rfl,h3.mono e hX v hp _,h4.at (hk r (.head _))⟩
  | tup l=>
    refine qat S ?_;intro r la vs k h1 h2 h3 h4 h5 h6;subst h2;have hx:¬X la:=hX.not h3 h4 (fun q=>by simp at q);exact ⟨r,la,vs,k,h1,rfl,e.fz la h3 hx,(e.keep la _ h4 hx (.inl h3)).get,h5.mono e hX l hp _,h6.at (hk r (.head _))⟩
  | range a c n=>
    refine qaj S ?_;intro r h1 h2 h3;subst h2;exact ⟨r,h1,rfl,hk r (.head _) _ h3⟩
  | enum v l=>
    refine qb5 S ?_;intro ee r la h1 h2 h3 h4 h5 h6;subst h2;exact ⟨ee,r,la,h1,rfl,h3,h4.mono e hX v hp _,h5.imp fun _ q=>hk ee (.head _) _ q,h6.at (hk r (.tail _ (.head _)))⟩
  | zip v1 l1 v2 l2=>
    refine qb1 S ?_;intro z TI TO i1 i2 la lb h1 h2 h3 h4 h5 h6 h7 h8 h9 h10;subst h2;have hq:=hp.imp_right fun q=>AJ.mp q
    have k1:=fun x y=>hk x (.tail _ y)
    exact ⟨z,TI,TO,i1,i2,la,lb,h1,rfl,h3,h4.mono e hX v1 (hq.imp_right (·.1)) _,h5.mono e hX v2 (hq.imp_right (·.2)) _,hk z (.head _) _ h6,k1 TI (.head _) _ h7,h8.imp fun _ q=>q.imp fun _ q=>k1 TO (.tail _ (.head _)) _ q,h9.at (k1 i1 (.tail _ (.tail _ (.head _)))),h10.at (k1 i2 (.tail _ (.tail _ (.tail _ (.head _)))))⟩
end
variable {ai:AIt}
section
def Nd (o:Obj):Prop:=(∀es n,o.data≠.dict es n)/\(∀v,o.data≠.cell v)/\(∀vs,o.data=.fields vs->o.cls≠.type "code")/\o.cls≠.type "frame"
theorem ndf {n:String}{vs:Array Value}(hd:o.data=.fields vs)(hc:o.cls=.type n)(hn:(n == "code" || n == "frame")=false):Nd o:=by
  refine AD ?_ (Bool.or_eq_false_iff.mp hn);intro h1 h2;refine ⟨fun _ _ q=>?_,fun _ q=>?_,fun _ _ q=>?_,fun q=>?_⟩
  . cases hd.symm.trans q
  . cases hd.symm.trans q
  . cases hc.symm.trans q;exact Di h1
  . cases hc.symm.trans q;exact Di h2
theorem AIt.St.objs (ai:AIt)(S:ai.St W g h ws it i):∀a∈ws,∃o,h.get? a=some o/\(∀es n,o.data≠.dict es n)/\(∀v,o.data≠.cell v)/\(∀vs,o.data=.fields vs->o.cls≠.type "code")/\o.cls≠.type "frame":=by
  show ∀a∈ws,∃o,h.get? a=some o/\Nd o;have li:∀{r la:Addr} {i:Nat},h.IsListIter r la i->∃o,h.get? r=some o/\Nd o:=fun h=>Aq h fun o q=>⟨o,q.1,ndf q.2.2 q.2.1 rfl⟩
  cases ai with
  | seq v l=>refine qb3 S ?_;intro r la h1 h2 h3 h4;subst h2;exact fac (li h4) fa0
  | tup l=>refine qat S ?_;intro r la vs k h1 h2 h3 h4 h5 h6;subst h2;exact fac (Aq h6 fun o q=>⟨o,q.1,ndf q.2.2 q.2.1 rfl⟩) fa0
  | range a c n=>refine qaj S ?_;intro r h1 h2 h3;subst h2;exact fac ⟨_,h3,ndf rfl rfl rfl⟩ fa0
  | enum v l=>
    refine qb5 S ?_;intro ee r la h1 h2 h3 h4 h5 h6;subst h2;exact fac (h5.elim fun _ q=>⟨_,q,ndf rfl rfl rfl⟩) (fac (li h6) fa0)
  | zip v1 l1 v2 l2=>
    refine qb1 S ?_;intro z TI TO i1 i2 la lb h1 h2 h3 h4 h5 h6 h7 h8 h9 h10;subst h2;have pr:∀{a:Addr} {u v:Value},IsPair h a u v->∃o,h.get? a=some o/\Nd o:=fun q=>⟨_,q,nofun,nofun,nofun,by simp⟩
    exact fac ⟨_,h6,ndf rfl rfl rfl⟩ (fac (pr h7) (fac (h8.elim fun _ q=>q.elim fun _ q=>pr q) (fac (li h9) (fac (li h10) fa0))))
theorem qcy {r:Addr}{v:Value}{Q:Unit->Al->Prop}{n:String}{vs:Array Value}(ho:s.heap.get? r=some o)(hc:o.cls=.type n)(hd:o.data=.fields vs)(hn:(["enumerate", "zip", "dict_itemiterator", "dict_reverseitemiterator", "odict_iterator", "itertools.zip_longest", "itertools.pairwise"].contains n)=false)(hQ:Q () s):
    wpAny (model prog w) A (D8 t (.ref r) v) Q E s:=by
  have key:∀a,wpAny (model prog w) A (do
      let o <- load r
      match o.cls,o.data with
      | .type n,.fields vs=>
        if ["enumerate", "zip", "dict_itemiterator", "dict_reverseitemiterator", "odict_iterator", "itertools.zip_longest", "itertools.pairwise"].contains n&&vs[0]? == some (Dj a) then
          rule "for.unpacks-the-owned-tuple"
          updateField r 0 .none
      | _,_=>pure ()) Q E s:=fun a=>by
    refine Aa (EG ho ?_);rw[hc,hd];show wpAny _ A (if (_&&_)=true then _ else _) Q E s;rw[hn,Cv,if_neg (by simp)];exact Ag hQ
  unfold D8;cases t <;> first
    | exact Ag hQ
    | (cases v <;> first | exact Ag hQ | exact key _)
section
theorem Icx {ai:AIt}(R:Rep W fr g σ s)(hP:∀a∈ws,Priv W g s.heap a)(tk:Nat)(T:Option Addr)(hT:∀t,T=some t->s.heap.get? t=none/\∃o,h'.get? t=some o)(hk:∀b o,b∉ws->s.heap.get? b=some o->h'.get? b=some o):
    ∃g',Rep W fr g' σ { s with heap:=h',toks:=tk }/\Evo W (·∈ws) noY g s.heap g' h'/\(∀t,T=some t->g' t=.fz)/\∀a∈ws,g' a=.other:=by
  have hnot:∀t,T=some t->∀a∈ws,a≠t:=fun t ht a ha q=>by
    refine qa5 ((hP a ha).obj) ?_;intro o ho _;rw[q,(hT t ht).1] at ho;cases ho
  cases T with
  | none=>
    obtain ⟨R',e'⟩:=R.turn2 (g':=g) (h':=h') tk (·∈ws) hP (fun _ _ _ _=>rfl) (fun a ha=>.inl (hP a ha).own) (fun a ha=>.inl (R.newO ha)) (fun a o ho ha=>hk a o ha ho);exact ⟨g,R',e',(fun t q=>by cases q),fun a ha=>(hP a ha).own⟩
  | some t=>
    obtain ⟨h1,h2⟩:=hT t rfl;obtain ⟨R',e'⟩:=R.turn2 (g':=qc6 g t .fz) (h':=h') tk (·∈ws) hP (fun a o ho _=>qa9 fun q=>by rw[q,h1] at ho;cases ho) (fun a ha=>.inl (by rw[qa9 (hnot t rfl a ha)];exact (hP a ha).own))
      (fun a ha=>by
        by_cases q:a=t
        . subst q;exact .inr ⟨qa4,h2⟩
        . rw[qa9 q];exact .inl (R.newO ha)) (fun a o ho ha=>hk a o ha ho)
    exact ⟨_,R',e',(fun t' q=>by obtain rfl:=Sj q;exact qa4),fun a ha=>by rw[qa9 (hnot t rfl a ha)];exact (hP a ha).own⟩
theorem qse (hP:∀a∈ws,Priv W g s.heap a)(S:ai.St W g' h' ws it i)(ho:∀a∈ws,g' a=.other):∀a∈ws,Priv W g' h' a:=fun a ha=>
  ⟨ho a ha,(hP a ha).new,S.objs ai a ha⟩
theorem qlr (hO:Lv σ v l)(R:Rep W fr g σ s)(rv:RV W g s.heap v (.ref la)){r:Addr}(p:Priv W g s.heap r):la≠r:=fun q=>by
  refine qa2 (hO.at R rv) ?_;intro a vs n ha _ _ hf;cases ha;subst q
  rcases hf with q | ⟨n,q⟩ <;> rw[p.own] at q <;> cases q
theorem qpd {X:Addr->Prop}(e:Evo W X Y g s.heap g' h')(hX:∀a,X a->Priv W g s.heap a)(rv:RV W g s.heap v (.ref la)):RV W g' h' v (.ref la):=
  rv.mono e (Priv.xok hX) v (.inl fun a q=>(hX a q).own) _
theorem qke {z TI TO i1 i2 l1 l2:Addr}(h:[z,TI,TO,i1,i2].Nodup)(h1:∀c∈[z,TI,TO,i1,i2],l1≠c)(h2:∀c∈[z,TI,TO,i1,i2],l2≠c):ZipApart z TI TO i1 i2 l1 l2:=by
  simp at h;refine qr4 (h) ?_;intro ne_9_0 ne_9_1 ne_9_2 d1;refine qr4 ne_9_0 ?_;intro a1 a2 a3 a4;refine qgj ne_9_1 ?_;intro b1 b2 b3;refine AD ?_ ne_9_2;intro c1 c2;exact ⟨BH a1,BH a2,BH a3,BH a4,b1,b2,b3,c1,c2,d1,h1 _ (by simp),h1 _ (by simp),h1 _ (by simp),h1 _ (by simp),h2 _ (by simp),h2 _ (by simp),h2 _ (by simp),h2 _ (by simp)⟩
theorem qmr {vs:Array Value}(r:RVs W g h l vs.toList)(hy:l[i]?=some y):∃w,vs[i]?=some w/\RV W g h y w:=by
  refine qa5 (r.getA hy) ?_;intro w hw rw';exact ⟨w,by rw[<- BL];exact hw,rw'⟩
theorem qkv (hO:Lv σ v l)(R:Rep W fr g σ s)(rv:RV W g s.heap v (.ref la))(hy:l[i]?=some y):∃vs w,s.heap.IsList la vs/\vs[i]?=some w/\RV W g s.heap y w:=by
  refine qa2 (hO.at R rv) ?_;intro a vs n ha ho hr _;refine qa5 (qmr hr hy) ?_;intro w hw rw';exact ⟨vs,w,Value.ref.inj ha ▸ qav ho,hw,rw'⟩
theorem qku (hO:Lv σ v l)(R:Rep W fr g σ s)(rv:RV W g s.heap v (.ref la)):∃vs,s.heap.IsList la vs/\vs.size=l.length:=by
  refine qa2 (hO.at R rv) ?_;intro a vs n ha ho hr _;exact ⟨vs,Value.ref.inj ha ▸ qav ho,AC.symm.trans hr.length⟩
theorem qqc (p:Priv W g s.heap a):s.heap.objs.size≠a:=fun q=>by
  refine qa5 p.obj ?_;intro o ho _;rw[<- q,qai] at ho;cases ho
theorem qs2 {x:AV}(h:(AIt.enum x l).items[i]?=some v):∃y,l[i]?=some y/\v=.tup [.int (i:Nat),y]:=by
  refine qa5 (Option.map_eq_some_iff.mp (Aj.symm.trans h)) ?_;intro p hp e;subst e;refine qa5 (Option.map_eq_some_iff.mp (DK.symm.trans hp)) ?_;intro y hy e;subst e;exact ⟨y,hy,by rw[Eo]⟩
theorem qsg {x x':AV}{l':List AV}(h:(AIt.zip x l x' l').items[i]?=some v):∃y y',l[i]?=some y/\l'[i]?=some y'/\v=.tup [y,y']:=by
  refine qa1 (List.getElem?_zipWith_eq_some.mp h) ?_;intro y y' h1 h2 e;exact ⟨y,y',h1,h2,e.symm⟩
theorem Icb {w:Value}(R:Rep W fr g σ s)(hP:∀a∈ws,Priv W g s.heap a)(hQ:∀v' g' s',Rep W fr g' σ s'->Evo W (·∈ws) noY g s.heap g' s'.heap->ai.St W g' s'.heap ws it (i+1)->(∀a∈ws,Priv W g' s'.heap a)->RV W g' s'.heap v v'->Q v' s')(T:Option Addr)(hT:∀t,T=some t->s.heap.get? t=none/\∃o,h'.get? t=some o)(hk:∀b o,b∉ws->s.heap.get? b=some o->h'.get? b=some o)(q:∀g',Evo W (·∈ws) noY g s.heap g' h'->(∀t,T=some t->g' t=.fz)->ai.St W g' h' ws it (i+1)/\RV W g' h' v w):Q w { s with heap:=h',toks:=tk }:=by
  refine qbx (Icx (ai:=ai) R hP tk T hT hk) ?_;intro g' R' e' hTf ho';exact AD (fun S' r=>hQ w g' _ R' e' S' (qse hP S' ho') r) (q g' e' hTf)
theorem qms {w:Value}(hP:∀a∈ws,Priv W g s.heap a)(e:Evo W (·∈ws) noY g s.heap g' h')(r:RV W g s.heap y w):RV W g' h' y w:=
  r.mono e (Priv.xok hP) y (.inl fun a q=>(hP a q).own) _
theorem zk {z TI TO i1 i2 b:Addr}{P:Prop}(hb:b∉[z,TI,TO,i1,i2])(h:b≠z->b≠TO->b≠i1->b≠i2->P):P:=
  h (fun q=>hb (q ▸ Am)) (fun q=>hb (q ▸ .tail _ (.tail _ Am))) (fun q=>hb (q ▸ .tail _ (.tail _ (.tail _ Am)))) (fun q=>hb (q ▸ .tail _ (.tail _ (.tail _ (.tail _ Am)))))
theorem AIt.step (hO:ai.Ok σ)(rm:Room k fr A)(R:Rep W fr g σ s)(S:ai.St W g s.heap ws it i)(hP:∀a∈ws,Priv W g s.heap a)(hv:ai.items[i]?=some v)(ht:ai.pairs=true->∃elts n p,t=.Tuple elts n p)(hQ:∀v' g' s',Rep W fr g' σ s'->Evo W (·∈ws) noY g s.heap g' s'.heap->ai.St W g' s'.heap ws it (i+1)->(∀a∈ws,Priv W g' s'.heap a)->RV W g' s'.heap v v'->Q v' s'):
    wpAny (model W.prog W.w) A (pyNext it) (fun r s1a=>∃v',r=some v'/\wpAny (model W.prog W.w) A (D8 t it v') (fun _ s2=>Q v' s2) E s1a) E s:=by
  cases ai with
  | seq x l=>
    refine qb3 (S) ?_;intro r la eq_10_2 eq_10_3 h3 h4;subst eq_10_2;subst eq_10_3;refine qa1 (qkv (hO:Lv σ x l) R h3 hv) ?_;intro vs w ho hw rw';refine (Walks.list rm.handled r la (qlr hO R h3 (hP r Am)) vs).item i s _ _ (DL.mp hw).1 ⟨h4,ho⟩ fun u h' tk hu hs' hk=>?_
    obtain rfl:=Sj (hw.symm.trans hu);refine qaj (id hs'.1) ?_;intro o ho' hc' hd';exact ⟨w,rfl,qcy ho' hc' hd' (by decide) (Icb (s:=s) (ai:=.seq x l) R hP hQ none (fun _ q=>nomatch q) hk fun g' e' _=>⟨⟨r,la,rfl,rfl,qpd e' hP h3,hs'.1⟩,qms hP e' rw'⟩)⟩
  | tup l=>
    refine qat (S) ?_;intro r la vs n eq_15_4 eq_15_5 h3 h4 h5 h6;subst eq_15_4;subst eq_15_5;have hne:la≠r:=fun q=>by rw[q,(hP r Am).own] at h3;cases h3
    have hne':la∉[r]:=fun q=>hne (AL.mp q)
    refine qa5 (qmr h5 hv) ?_;intro w hw rw';refine (Walks.tuple rm.handled r la hne vs).item i s _ _ (DL.mp hw).1 ⟨h6,⟨_,h4,rfl,n,rfl⟩⟩ fun u h' tk hu hs' hk=>?_
    obtain rfl:=Sj (hw.symm.trans hu);refine qaj (id hs'.1) ?_;intro o ho' hc' hd';exact ⟨w,rfl,qcy ho' hc' hd' (by decide) (Icb (s:=s) (ai:=.tup l) R hP hQ none (fun _ q=>nomatch q) hk fun g' e' _=>⟨⟨r,la,vs,n,rfl,rfl,e'.fz la h3 hne',hk la _ hne' h4,h5.mono e' (Priv.xok hP) l (.inl fun a q=>(hP a q).own) _,hs'.1⟩,qms hP e' rw'⟩)⟩
  | range a c n=>
    refine qaj (S) ?_;intro r eq_19_1 eq_19_2 h3;subst eq_19_1;subst eq_19_2;refine qa5 (Option.map_eq_some_iff.mp (Aj.symm.trans hv)) ?_;intro j hj eq_1;subst eq_1;refine Aq (Ap.mp hj) ?_;intro hi hj';rw[List.getElem_range] at hj';subst hj';rw[AM] at hi;refine (Walks.range rm.handled r a c n).item i s _ _ hi h3 fun u h' tk hu hs' hk=>?_
    refine Aq hu ?_;intro tt eq_0_1;subst eq_0_1;exact ⟨_,rfl,qcy (n := "range_iterator") hs' rfl rfl (by decide) (Icb (s:=s) (ai:=.range a c n) R hP hQ none (fun _ q=>nomatch q) hk fun g' e' _=>⟨⟨r,rfl,rfl,hs'⟩,tt,rfl⟩)⟩
  | enum x l=>
    refine qn5 (ht rfl) ?_;intro elts n' p' eq_22_3;subst eq_22_3;refine qb5 (S) ?_;intro e r la eq_23_3 eq_23_4 h3 h4 h5 h6;subst eq_23_3;subst eq_23_4;refine qa5 (qs2 hv) ?_;intro y hy eq_25_2;subst eq_25_2;refine qa1 (qkv (hO:Lv σ x l) R h4 hy) ?_;intro vs w ho hw rw';refine Aq h5 ?_;intro old h5;refine wpAny_pyNext_enum_item h5 h6 ho hw h3 fun h' hm hit' hT hsz hk=>?_
    refine ⟨_,rfl,wpAny_letOwnedTupleGo_enum hm fun h'' he' hs'=>?_⟩;have hT':=(hs'.2 _ (qqc (hP e Am))).trans hT;exact Icb (s:=s) (ai:=.enum x l) R hP hQ (some s.heap.objs.size) (fun t q=>Sj q ▸ ⟨qai _,_,hT'⟩) (h':=h'') (fun b o hb q=>(hs'.2 b (fun q=>hb (q ▸ Am))).trans (hk b o (fun q=>hb (q ▸ Am)) (fun q=>hb (q ▸ .tail _ Am)) q))
      fun g' e' hTf=>⟨⟨e,r,la,rfl,rfl,h3,qpd e' hP h4,⟨_,he'⟩,hit'.at fun o q=>(hs'.2 r h3.symm).trans q⟩,⟨_,_,_,rfl,hTf _ rfl,hT',_,_,rfl,⟨_,rfl⟩,_,_,rfl,qms hP e' rw',rfl⟩⟩
  | zip v1 l1 v2 l2=>
    refine qn5 (ht rfl) ?_;intro elts n' p' eq_30_3;subst eq_30_3;refine qb1 (S) ?_;intro z TI TO i1 i2 la lb eq_31_7 eq_31_8 h3 h4 h5 h6 h7 ne_31_14 h9 h10;subst eq_31_7;subst eq_31_8;refine qjj ne_31_14 ?_;intro a1a b1 h8;have O:=(hO:Lv σ v1 l1/\Lv σ v2 l2)
    have D:=qke h3 (fun c hc=>qlr O.1 R h4 (hP c hc)) fun c hc=>qlr O.2 R h5 (hP c hc)
    refine qa1 (qsg hv) ?_;intro y y' hy hy' eq_34_4;subst eq_34_4;refine qa1 (qkv O.1 R h4 hy) ?_;intro vs w ho hw rw';refine qa1 (qkv O.2 R h5 hy') ?_;intro us w2 ho2 hw2 rw2;refine wpAny_pyNext_zip_item D h6 h7 h8 h9 h10 ho ho2 hw hw2 fun h' a1 a2 a3 a4 a5 a6 hk=>?_
    refine ⟨_,rfl,wpAny_letOwnedTupleGo_zip a1 fun h'' hz' hs'=>?_⟩;have hT':=(hs'.2 _ (qqc (hP z Am))).trans a5;exact Icb (s:=s) (ai:=.zip v1 l1 v2 l2) R hP hQ (some s.heap.objs.size) (fun t q=>Sj q ▸ ⟨qai _,_,hT'⟩) (h':=h'') (fun b o hb q=>(hs'.2 b (fun q=>hb (q ▸ Am))).trans (zk hb (hk b o) q))
      fun g' e' hTf=>⟨⟨z,TI,TO,i1,i2,la,lb,rfl,rfl,h3,qpd e' hP h4,qpd e' hP h5,hz',(hs'.2 _ D.TIz).trans (hk _ _ D.TIz D.TITO D.TIi1 D.TIi2 h7),
      ⟨_,_,(hs'.2 _ D.TOz).trans a2⟩,a3.at fun o q=>(hs'.2 _ D.i1z).trans q,a4.at fun o q=>(hs'.2 _ D.i2z).trans q⟩,⟨_,_,_,rfl,hTf _ rfl,hT',_,_,rfl,qms hP e' rw',_,_,rfl,qms hP e' rw2,rfl⟩⟩
theorem Icr (hO:ai.Ok σ)(rm:Room k fr A)(R:Rep W fr g σ s)(S:ai.St W g s.heap ws it i)(hP:∀a∈ws,Priv W g s.heap a)(hv:ai.items.length=i){Q:Option Value->Al->Prop}(hQ:∀g' s',Rep W fr g' σ s'->Evo W (·∈ws) noY g s.heap g' s'.heap->Q none s'):
    wpAny (model W.prog W.w) A (pyNext it) Q E s:=by
  have fin:∀h' tk,(∀b o,b∉ws->s.heap.get? b=some o->h'.get? b=some o)->Q none { s with heap:=h',toks:=tk }:=fun h' tk hk=>by
    refine qbx (Icx (ai:=ai) R hP tk none (fun _ q=>nomatch q) hk) ?_;intro g' R' e' _ ho';exact hQ g' _ R' e'
  cases ai with
  | seq x l=>
    refine qb3 (S) ?_;intro r la eq_40_2 eq_40_3 h3 h4;subst eq_40_2;subst eq_40_3;refine qa5 (qku (hO:Lv σ x l) R h3) ?_;intro vs ho hl;exact (Walks.list rm.handled r la (qlr hO R h3 (hP r Am)) vs).done s _ _ ⟨hl.trans hv ▸ h4,ho⟩ fin
  | tup l=>
    refine qat (S) ?_;intro r la vs n eq_42_4 eq_42_5 h3 h4 h5 h6;subst eq_42_4;subst eq_42_5;have hne:la≠r:=fun q=>by rw[q,(hP r Am).own] at h3;cases h3
    exact (Walks.tuple rm.handled r la hne vs).done s _ _ ⟨(AC.symm.trans h5.length).trans hv ▸ h6,⟨_,h4,rfl,n,rfl⟩⟩ fin
  | range a c n=>
    refine qaj (S) ?_;intro r eq_43_1 eq_43_2 h3;subst eq_43_1;subst eq_43_2;obtain rfl:n=i:=((Ab _).trans AM).symm.trans hv;exact (Walks.range rm.handled r a c n).done s _ _ h3 fin
  | enum x l=>
    refine qb5 (S) ?_;intro e r la eq_44_3 eq_44_4 h3 h4 ne_44_7 h6;subst eq_44_3;subst eq_44_4;refine Aq ne_44_7 ?_;intro old h5;refine qa5 (qku (hO:Lv σ x l) R h4) ?_;intro vs ho hl;have hi:vs.size<=i:=BE (hl.trans (((Ab _).trans List.length_zipIdx).symm.trans hv));exact wpAny_pyNext_enum_end rm.handled h5 h6 ho (Ep hi) fun h' he=>fin h' s.toks fun b o hb q=>he b o (fun q=>hb (q ▸ .tail _ Am)) q
  | zip v1 l1 v2 l2=>
    refine qb1 (S) ?_;intro z TI TO i1 i2 la lb eq_46_7 eq_46_8 h3 h4 h5 h6 h7 ne_46_14 h9 h10;subst eq_46_7;subst eq_46_8;refine qjj ne_46_14 ?_;intro a1a b1 h8;have O:=(hO:Lv σ v1 l1/\Lv σ v2 l2)
    have D:=qke h3 (fun c hc=>qlr O.1 R h4 (hP c hc)) fun c hc=>qlr O.2 R h5 (hP c hc)
    refine qa5 (qku O.1 R h4) ?_;intro vs ho e1;refine qa5 (qku O.2 R h5) ?_;intro us ho2 e2;have hi:min l1.length l2.length=i:=List.length_zipWith.symm.trans hv;refine wpAny_pyNext_zip_end rm.handled D h6 h7 h8 h9 h10 ho ho2 ?_ fun h' hk=>fin h' s.toks fun b o hb q=>zk hb (hk b o) q
    by_cases hle:l1.length<=l2.length
    . exact .inl (Ep (BE (e1.trans ((DZ hle).symm.trans hi))))
    . exact .inr (Ep (BE (e2.trans ((EC (Nat.le_of_not_le hle)).symm.trans hi))))
theorem Idd (S:ai.St W g s.heap ws it i)(hQ:Q it s):wpAny (model W.prog W.w) A (GP it) Q E s:=by
  cases ai with
  | seq x l=>refine qb3 (S) ?_;intro r la eq_49_2 eq_49_3 h3 h4;subst eq_49_2;subst eq_49_3;exact wpAny_pyIter_listiter h4 hQ
  | tup l=>refine qat (S) ?_;intro r la vs n eq_50_4 eq_50_5 h3 h4 h5 h6;subst eq_50_4;subst eq_50_5;exact wpAny_pyIter_tupleiter h6 hQ
  | range a c n=>refine qaj (S) ?_;intro r eq_51_1 eq_51_2 h3;subst eq_51_1;subst eq_51_2;exact wpAny_pyIter_rangeiter h3 hQ
  | enum x l=>refine qb5 (S) ?_;intro e r la eq_52_3 eq_52_4 h3 h4 ne_52_7 h6;subst eq_52_3;subst eq_52_4;refine Aq ne_52_7 ?_;intro old h5;exact wpAny_pyIter_enum h5 hQ
  | zip v1 l1 v2 l2=>refine qfy (S) ?_;intro z TI TO i1 i2 la lb eq_53_7 eq_53_8 h3 h4 h5 h6 _;subst eq_53_7;subst eq_53_8;exact wpAny_pyIter_zip h6 hQ
end
end
section
theorem qbf {target:Expr}(turn:wpAny (model prog w) A (pyNext it) (fun r s1a=>match r with
      | none=>wpAny (model prog w) A (execs orelse env) (fun f s3=>R (.ok f) s3) (DH (model prog w) A env fun e s'=>R (.error e) s') s1a
      | some v=>wpAny (model prog w) A (D8 target it v) (fun _ s1'=>
          wpAny (model prog w) A (assign target env v) (fun _ s2=>wpAny (model prog w) A (execs body env) (fun f s3=>match f with
            | .next | .cont=>Cf (model prog w) A (.forLoop target it body orelse env) R s3
            | .brk=>R (.ok .next) s3
            | .ret v=>R (.ok (.ret v)) s3) (DH (model prog w) A env fun e s'=>R (.error e) s') s2) (DH (model prog w) A env fun e s'=>R (.error e) s') s1') (DH (model prog w) A env fun e s'=>R (.error e) s') s1a) (DH (model prog w) A env fun e s'=>R (.error e) s') s):
    Cf (model prog w) A (.forLoop target it body orelse env) R s:=by
  refine Dy ?_;show wpAny _ A ((forTurn target it body orelse env).onRaise (fun x=>do GL x env;Gn x)) _ _ s;refine wpAny_noted ?_;simp only[forTurn];refine Aa (AP (Aa (DX (AB turn (fun r s1a h1a=>?_) fun _ _ h'=>AP h'))));cases r with
  | none=>exact Ag ⟨rfl,codeAny_block h1a⟩
  | some v=>
    refine Aa (AB h1a (fun _ s1' h1'=>?_) fun _ _ h'=>h');refine Aa (AB h1' (fun _ s2 h2a=>Aa (AB h2a (fun f s3 h3=>?_) fun _ _ h'=>h')) fun _ _ h'=>h');cases f with
    | next=>exact Ag ⟨rfl,h3⟩
    | cont=>exact Ag ⟨rfl,h3⟩
    | brk=>exact Ag h3
    | ret v=>exact Ag h3
def ItE (C:Cx) (k:Nat) (fr:List Env) (m:List (Option AV)) (σ:List AObj) (e:Expr) (ai:AIt) (z':List AObj):Prop:=
  ∀(A:BF) (env:Env) (g:Addr->Own) (s:Al),Room k fr A->Rep C.W fr g σ s->Fra C env m g s.heap->∀(Q:Value->Al->Prop) (E:Value->Al->Prop),
    (∀it g' s' ws,Rep C.W fr g' z' s'->Evo C.W noX C.Y g s.heap g' s'.heap->ai.St C.W g' s'.heap ws it 0->(∀a∈ws,Priv C.W g' s'.heap a)->(∀a∈ws,s.heap.get? a=none)->Q it s') ->
    wpAny (model C.W.prog C.W.w) A (eval e env) (fun x s1a=>wpAny (model C.W.prog C.W.w) A (GP x) Q E s1a) E s
def CallIt (W:Wd) (Y:Nat->Prop) (k:Nat) (fr:List Env) (σ:List AObj) (f:AV) (args:List AV) (ai:AIt) (z':List AObj):Prop:=
  ∀(A:BF) (g:Addr->Own) (s:Al) (vf:Value) (vs:List Value),Room k fr A->Rep W fr g σ s->RV W g s.heap f vf->RVs W g s.heap args vs->∀(Q:Value->Al->Prop) (E:Value->Al->Prop),
    (∀it g' s' ws,Rep W fr g' z' s'->Evo W noX Y g s.heap g' s'.heap->ai.St W g' s'.heap ws it 0->(∀a∈ws,Priv W g' s'.heap a)->(∀a∈ws,s.heap.get? a=none)->Q it s') ->
    wpAny (model W.prog W.w) A (call vf vs []) (fun x s1a=>wpAny (model W.prog W.w) A (GP x) Q E s1a) E s
section
theorem qf6 {f:AV}{first:List AV}{kws:List GK}(hf:Kept C.W f)(ha:Evs C k fr m σ es args z1)(hk:EvK C k fr m z1 kws kn kv z2)(hpl:∀env p,(Fg p (C6 es env)).any (·.1)=false){p':Pos}{vf:Value}{fs:List Value}(rm:Room k fr A)(R:Rep C.W fr g σ s)(F:Fra C env m g s.heap)(rf:RV C.W g s.heap f vf)(rs:RVs C.W g s.heap first fs)(hQ:∀g' s' vs ks,Rep C.W fr g' z2 s'->Evo C.W noX C.Y g s.heap g' s'.heap->RV C.W g' s'.heap f vf->RVs C.W g' s'.heap (first++args) vs->RVs C.W g' s'.heap kv ks ->
      wpAny (model C.W.prog C.W.w) A (call vf vs (kn.zip ks)) Q E s'):
    wpAny (model C.W.prog C.W.w) A (callWith p vf fs (Fg p' (C6 es env)) (Fl p' (C7 kws env))) Q E s:=by
  refine AD ?_ (hk.names env p');intro hn hal;refine callWith_of (P:=fun h=>∃kp,(kp=F9\/kp=Fk\/kp=En)/\Looks (model C.W.prog C.W.w) h (keeperOf vf) kp) ?_ (fun h q=>q) ?_
  . rw[hpl];simp only[FK,List.any_eq_false];intro q hq;have:=BZ.mp hal q hq;cases hq1:q.1 <;> simp_all
  . refine qe2 (hpl _ _) hal (ha A env g s p' rm R F _ _ fun vs g1 s1a R1 e1a rv=>hk.run A env g1 s1a p' rm R1 (F.up e1a) _ _ fun ks g2 s2 R2 e2a rk=>?_);rw[hn];refine ⟨hf fr g2 z2 s2 vf R2 ((rf.up e1a).up e2a),?_⟩;exact hQ g2 s2 (fs++vs) ks R2 (e1a.trans e2a) ((rf.up e1a).up e2a) (((rs.up e1a).up e2a).append (rv.up e2a)) rk
theorem ItE.call {q:Pos}{f:AV}(hn:Ev C k fr m σ (.Name x q) f z1)(hf:Kept C.W f)(ha:Evs C k fr m z1 es args z2)(hc:CallIt C.W C.Y k fr z2 f args ai z')(hpl:autoParam (∀env p,(Fg p (C6 es env)).any (·.1)=false) ap0._auto_1):ItE C k fr m σ (.Call (.Name x q) es [] p) ai z':=fun A env g s rm R F Q E hQ=>by
  refine Ec (hn A env g s rm R F _ _ fun vf g1 s1a R1 e1a rf=>?_);refine qf6 (first:=[]) hf ha EvK.nil hpl rm R1 (F.up e1a) rf rfl fun g2 s2 vs ks R2 e2a rf rv rk=>?_
  obtain rfl:ks=[]:=rk;exact hc A g2 s2 vf vs rm R2 rf rv Q E fun it g3 s3 ws R3 e3a S hP hfr=>hQ it g3 s3 ws R3 ((e1a.trans e2a).trans e3a) S hP fun a ha=>Ib0 R (e1a.trans e2a) R2 (hfr a ha)
theorem Rep.newPriv (R:Rep W fr g σ s)(o:Obj)(hf:o.isFreed=false)(hd:∀es n,o.data≠.dict es n)(hc:∀v,o.data≠.cell v)(hk:(∀vs,o.data=.fields vs->o.cls≠.type "code")/\o.cls≠.type "frame"):
    Rep W fr g σ { s with heap:=s.heap.push o }/\Evo W noX noY g s.heap g (s.heap.push o)/\Priv W g (s.heap.push o) s.heap.objs.size:=by
  have htop:=R.top;refine AD ?_ (R.push o .other hf (.inr rfl));intro R1 e1a;have hgo:qc6 g s.heap.objs.size .other=g:=by
    funext a
    by_cases ha:a=s.heap.objs.size
    . subst ha;rw[qa4,htop]
    . exact qa9 ha
  rw[hgo] at R1 e1a;exact ⟨R1,e1a,htop,R.new1 (qai _),o,Ar _ hf,hd,hc,hk⟩
theorem ItE.list (he:Ev C k fr m σ e v z')(hL:Lv z' v l):ItE C k fr m σ e (.seq v l) z':=fun A env g s rm R F Q E hQ=>by
  refine he A env g s rm R F _ _ fun va g1 s1a R1 e1a ra=>?_
  refine qa2 (hL.at R1 ra) ?_;intro a vs n eq_2_3 ho hr _;subst eq_2_3;refine wpAny_pyIter_list (qav ho) ?_;refine qgj (R1.newPriv { cls:=.type "list_iterator",data:=.fields #[.ref a,.int 0 0] } rfl (by nofun) (by nofun) ⟨(fun _ _ q=>by simp at q),by simp⟩) ?_;intro R2 e2a p2;refine hQ _ _ _ [s1a.heap.objs.size] R2 (e1a.trans e2a.no) ⟨_,a,rfl,rfl,ra.up e2a,_,Ar _ rfl,rfl,rfl⟩ (fun b hb=>by simp at hb;subst hb;exact p2) fun b hb=>?_
  simp at hb;subst hb;exact Ib0 R e1a R1 (qai _)
theorem ItE.tuple (he:Ev C k fr m σ e (.tup l) z'):ItE C k fr m σ e (.tup l) z':=fun A env g s rm R F Q E hQ=>by
  refine he A env g s rm R F _ _ fun va g1 s1a R1 e1a ra=>?_
  refine qa2 (ra) ?_;intro a vs n eq_4_3 hg ho hr;subst eq_4_3;refine wpAny_pyIter_tuple ⟨_,ho,rfl,n,rfl⟩ ?_;refine qgj (R1.newPriv { cls:=.type "tuple_iterator",data:=.fields #[.ref a,.int 0 0] } rfl (by nofun) (by nofun) ⟨(fun _ _ q=>by simp at q),by simp⟩) ?_;intro R2 e2a p2;refine hQ _ _ _ [s1a.heap.objs.size] R2 (e1a.trans e2a.no) ⟨_,a,vs,n,rfl,rfl,e2a.fz a hg (fun q=>q),Au _ ho,hr.up e2a,_,Ar _ rfl,rfl,rfl⟩ (fun b hb=>by simp at hb;subst hb;exact p2) fun b hb=>?_
  simp at hb;subst hb;exact Ib0 R e1a R1 (qai _)
theorem qkn {r:Addr}{a b:Int}{t u v:Tok}(R:Rep W fr g σ s)(hr:IsRange s.heap r a b 1 t u v)(h:-(2 ^ 62)<=a/\a<2 ^ 62/\-(2 ^ 62)<=b/\b<2 ^ 62)(hQ:∀it g' s' ws,Rep W fr g' σ s'->Evo W noX noY g s.heap g' s'.heap->(AIt.range a 1 (b - a).toNat).St W g' s'.heap ws it 0->(∀a∈ws,Priv W g' s'.heap a)->(∀a∈ws,s.heap.get? a=none)->Q it s'):wpAny (model W.prog W.w) A (GP (.ref r)) Q E s:=by
  refine wpAny_pyIter_range hr (small_one h.1 h.2.1 h.2.2.1 h.2.2.2) ?_;refine qgj (R.newPriv { cls:=.type "range_iterator",data:=.fields #[Dj a,Dj (Dk a b 1),Dj 1] } rfl nofun nofun ⟨(fun _ _ q=>by simp at q),by simp⟩) ?_;intro R2 e2a p2;have hz:Dk a b 1=(((b - a).toNat:Nat):Int) - (0:Nat):=by rw[rangeSize_one];split <;> grind
  have ho:(s.heap.push { cls:=.type "range_iterator",data:=.fields #[Dj a,Dj (Dk a b 1),Dj 1] }).get? s.heap.objs.size=some { cls:=.type "range_iterator",data:=.fields #[Dj a,Dj (Dk a b 1),Dj 1] }:=Ar _ rfl;refine hQ _ _ _ [s.heap.objs.size] R2 e2a ⟨s.heap.objs.size,rfl,rfl,?_⟩ (fun c hc=>by rw[AL] at hc;rw[hc];exact p2) fun c hc=>by rw[AL] at hc;rw[hc];exact qai _
  rw[<- hz,show a+((0:Nat):Int)*1=a by simp];exact ho
theorem Icp {a b:Int}(h:-(2 ^ 62)<=a/\a<2 ^ 62/\-(2 ^ 62)<=b/\b<2 ^ 62):CallIt W Y k fr σ (.glob (.type "range")) [.int a,.int b] (.range a 1 (b - a).toNat) σ:=fun A g s vf vs rm R rf rv Q E hQ=>by
  obtain rfl:vf=.type "range":=rf;refine qa1 (rv) ?_;intro v1 q1 eq_7_2 ne_7_3 r1;subst eq_7_2;obtain ⟨t1,rfl⟩:=ne_7_3;refine qa1 (r1) ?_;intro v2 q2 eq_8_2 ne_8_3 r2;subst eq_8_2;obtain ⟨t2,rfl⟩:=ne_8_3;obtain rfl:q2=[]:=r2;refine call_range_2 ?_;refine qgj (R.newPriv { cls:=.type "range",data:=.fields #[.int a t1,.int b t2,.int 1 s.toks] } rfl nofun nofun ⟨(fun _ _ q=>by simp at q),by simp⟩) ?_;intro R1 e1a p1;exact qkn (R1.tok (s.toks+1)) (IsRange.new ..) h fun it g' s' ws R' e' S hP hf=>hQ it g' s' ws R' (e1a.trans e').no S hP fun c hc=>Ib0 R e1a R1 (hf c hc)
theorem Iam {b:Int}(h:-(2 ^ 62)<=b/\b<2 ^ 62):CallIt W Y k fr σ (.glob (.type "range")) [.int b] (.range 0 1 b.toNat) σ:=fun A g s vf vs rm R rf rv Q E hQ=>by
  obtain rfl:vf=.type "range":=rf;refine qa1 (rv) ?_;intro v2 q2 eq_10_2 ne_10_3 r2;subst eq_10_2;obtain ⟨t2,rfl⟩:=ne_10_3;obtain rfl:q2=[]:=r2;refine call_range_1 ?_;refine qgj (R.newPriv { cls:=.type "range",data:=.fields #[.int 0 s.toks,.int b t2,.int 1 (s.toks+1)] } rfl nofun nofun ⟨(fun _ _ q=>by simp at q),by simp⟩) ?_;intro R1 e1a p1;refine qkn (R1.tok (s.toks+1+1)) (IsRange.new ..) ⟨by decide,by decide,h.1,h.2⟩ fun it g' s' ws R' e' S hP hf=>hQ it g' s' ws R' (e1a.trans e').no ?_ hP fun c hc=>Ib0 R e1a R1 (hf c hc)
  rw[Int.sub_zero] at S;exact S
theorem Rep.keepsAll (R:Rep W fr g σ s)(hk:∀a o,s.heap.get? a=some o->h'.get? a=some o):Rep W fr g σ { s with heap:=h' }/\Evo W noX noY g s.heap g h':=R.keeps s.toks hk
theorem CallIt.enum (hL:Lv σ v l):CallIt W Y k fr σ (.glob (.type "enumerate")) [v] (.enum v l) σ:=fun A g s vf vs rm R rf rv Q E hQ=>by
  obtain rfl:vf=.type "enumerate":=rf;refine qa1 (rv) ?_;intro v2 q2 eq_12_2 ra r2;subst eq_12_2;obtain rfl:q2=[]:=r2;refine qa2 (hL.at R ra) ?_;intro a us n eq_13_3 ho hr _;subst eq_13_3;refine call_enumerate_1 ho fun h' he hit hsz hk=>?_
  refine wpAny_pyIter_enum he ?_;refine AD ?_ (R.keepsAll hk);intro R1 e1a;have n0:s.heap.get? s.heap.objs.size=none:=qai _;have n1:s.heap.get? (s.heap.objs.size+1)=none:=Cw (DM _);refine hQ _ g _ [s.heap.objs.size+1,s.heap.objs.size] R1 e1a.no ⟨_,_,a,rfl,rfl,Nat.succ_ne_self _,ra.up e1a,⟨_,he⟩,hit⟩ (fun b hb=>?_) fun b hb=>?_
  . simp at hb;rcases hb with rfl | rfl
    . exact ⟨R.newO n1,R.new1 n1,_,he,by exact nofun,by exact nofun,(fun _ _ q=>by simp at q),by simp⟩
    . refine qaj (hit) ?_;intro o h1 h2 h3;exact ⟨R.newO n0,R.new1 n0,o,h1,(fun _ _ q=>by rw[h3] at q;cases q),(fun _ q=>by rw[h3] at q;cases q),(fun _ _ q=>by rw[h2] at q;simp at q),by rw[h2];simp⟩
  . simp at hb;rcases hb with rfl | rfl
    . exact n1
    . exact n0
def ForC (C:Cx) (k:Nat) (fr:List Env) (t:Expr) (body orelse:List Stmt) (ai:AIt) (i:Nat) (m:List (Option AV)) (σ:List AObj) (fl:AFl) (m':List (Option AV)) (z':List AObj):Prop:=
  ∀(A:BF) (env:Env) (g:Addr->Own) (s:Al) (it:Value) (ws:List Addr),Room k fr A->Rep C.W fr g σ s->Fra C env m g s.heap->ai.St C.W g s.heap ws it i->(∀a∈ws,Priv C.W g s.heap a)->∀(R:GZ->Al->Prop),
    (∀f' g' s',Rep C.W fr g' z' s'->Evo C.W (fun a=>FX C.nm env a\/a∈ws) C.Y g s.heap g' s'.heap->Fra C env m' g' s'.heap->RFl C.W g' s'.heap fl f'->R (.ok f') s')->Cf (model C.W.prog C.W.w) A (.forLoop t it body orelse env) R s
theorem Evo.inX {X X':Addr->Prop}(e:Evo W X Y g h g' h')(hX:∀a,X a->X' a):Evo W X' Y g h g' h':=
  ⟨fun a o ho hx hq=>e.keep a o ho (fun q=>hx (hX a q)) hq,e.keepL,fun a q hx=>e.fz a q fun q=>hx (hX a q),e.loc,e.aux,fun a o ho q hx=>e.oth a o ho q fun q=>hx (hX a q),e.tabs⟩
theorem ForC.done (hO:ai.Ok σ)(hi:ai.items.length=i)(ho:Exs C k fr m σ orelse fl m' z'):ForC C k fr t body orelse ai i m σ fl m' z':=fun A env g s it ws rm R F S hP Rr hR=>by
  refine qbf (Icr hO rm R S hP hi fun g1 s1a R1 e1a=>?_);exact ho A env g1 s1a rm R1 (F.turn hP e1a) _ _ fun f' g2 s2 R2 e2a F2 hf=>hR f' g2 s2 R2 ((e1a.inX fun _ q=>.inr q).toY.trans (e2a.inX fun _ q=>.inl q)) F2 hf
theorem ForC.turn {bf:AFl}(hO:ai.Ok σ)(hp:ai.plain=true)(hv:ai.items[i]?=some v)(ht:ai.pairs=true->∃elts n p,t=.Tuple elts n p)(ha:As C k fr m σ t v m1 z1)(hb:Exs C k fr m1 z1 body bf m2 z2)(hn:(bf=.next\/bf=.cont)/\ForC C k fr t body orelse ai (i+1) m2 z2 fl m' z'\/bf=.brk/\fl=.next/\m'=m2/\z'=z2\/(∃u,bf=.ret u/\fl=.ret u/\m'=m2/\z'=z2)):ForC C k fr t body orelse ai i m σ fl m' z':=fun A env g s it ws rm R F S hP Rr hR=>by
  refine qbf (AB (AIt.step (t:=t) hO rm R S hP hv ht (Q:=fun v' s1a=>∃g1,Rep C.W fr g1 σ s1a/\Evo C.W (·∈ws) noY g s.heap g1 s1a.heap/\ai.St C.W g1 s1a.heap ws it (i+1)/\(∀a∈ws,Priv C.W g1 s1a.heap a)/\RV C.W g1 s1a.heap v v')
    fun v' g1 s1a R1 e1a S1 hP1 rv=>⟨g1,R1,e1a,S1,hP1,rv⟩) (fun r s1a h1a=>?_) fun _ _ e=>e)
  refine qa5 (h1a) ?_;(try clear h1a);intro v' eq_21_1 h1a;subst eq_21_1;refine AB h1a (fun _ s1' h1'=>?_) fun _ _ e=>e
  refine qet (h1') ?_;intro g1 R1 e1a S1 hP1 rv;have F1:=F.turn hP e1a;refine ha A env g1 s1' v' rm R1 F1 rv _ _ fun g2 s2 R2 e2a F2=>?_
  have keep:∀{g1 g2:Addr->Own} {h1a h2a:Heap} {m:List (Option AV)},Fra C env m g1 h1a->Evo C.W (FX C.nm env) C.Y g1 h1a g2 h2a->(∀a∈ws,Priv C.W g1 h1a a)->(∀a∈ws,∀o,h1a.get? a=some o->h2a.get? a=some o)/\∀a∈ws,Priv C.W g2 h2a a:=fun {g1 g2 h1a h2a m} F e hP=>
    ⟨fun a ha o ho=>(Priv.keep F e (hP a ha) ho).1,fun a ha=>by refine qa5 ((hP a ha).obj) ?_;intro o ho _;exact (Priv.keep F e (hP a ha) ho).2⟩
  refine AD ?_ (keep F1 e2a hP1);intro k2 hP2;have S2:=AIt.St.mono e2a F1.xok k2 ai (.inr hp) S1;refine hb A env g2 s2 rm R2 F2 _ _ fun f' g3 s3 R3 e3a F3 hf=>?_
  refine AD ?_ (keep F2 e3a hP2);intro k3 hP3;have S3:=AIt.St.mono e3a F2.xok k3 ai (.inr hp) S2;have e13:Evo C.W (fun a=>FX C.nm env a\/a∈ws) C.Y g s.heap g3 s3.heap:=((e1a.inX fun _ q=>.inr q).toY.trans (e2a.inX fun _ q=>.inl q)).trans (e3a.inX fun _ q=>.inl q);rcases hn with ⟨hbf,hn⟩ | ⟨rfl,rfl,rfl,rfl⟩ | ⟨u,rfl,rfl,rfl,rfl⟩
  . have go:Cf (model C.W.prog C.W.w) A (.forLoop t it body orelse env) Rr s3:=hn A env g3 s3 it ws rm R3 F3 S3 hP3 Rr fun f' g4 s4 R4 e4 F4 hf=>hR f' g4 s4 R4 (e13.trans e4) F4 hf
    rcases hbf with rfl | rfl
    . obtain rfl:f'=.next:=hf;exact go
    . obtain rfl:f'=.cont:=hf;exact go
  . obtain rfl:f'=.brk:=hf;exact hR .next g3 s3 R3 e13 F3 rfl
  . refine qa5 (hf) ?_;intro v'' eq_26_1 hv'';subst eq_26_1;exact hR _ g3 s3 R3 e13 F3 ⟨v'',rfl,hv''⟩
theorem ForC.next (hO:ai.Ok σ)(hp:ai.plain=true)(hv:ai.items[i]?=some v)(ht:ai.pairs=true->∃elts n p,t=.Tuple elts n p)(ha:As C k fr m σ t v m1 z1)(hb:Exs C k fr m1 z1 body .next m2 z2)(hn:ForC C k fr t body orelse ai (i+1) m2 z2 fl m' z'):ForC C k fr t body orelse ai i m σ fl m' z':=.turn hO hp hv ht ha hb (.inl ⟨.inl rfl,hn⟩)
theorem ForC.brk (hO:ai.Ok σ)(hp:ai.plain=true)(hv:ai.items[i]?=some v)(ht:ai.pairs=true->∃elts n p,t=.Tuple elts n p)(ha:As C k fr m σ t v m1 z1)(hb:Exs C k fr m1 z1 body .brk m' z'):
    ForC C k fr t body orelse ai i m σ .next m' z':=.turn hO hp hv ht ha hb (.inr (.inl ⟨rfl,rfl,rfl,rfl⟩))
theorem Ib3 (hi:ItE C k fr m σ iter ai z1)(hf:ForC C k fr t body orelse ai 0 m z1 fl m' z')(hs:autoParam (∀x env,BA iter env x=pure x) ap0._auto_1):
    Ex C k fr m σ (.For t iter body orelse p) fl m' z':=fun A env g s rm R F Q E hQ=>by
  refine wpAny_For (hi A env g s rm R F _ _ fun it g1 s1a ws R1 e1a S hP hfr=>?_) (fun x=>hs x env);refine hf A env g1 s1a it ws rm R1 (F.up e1a) S hP _ fun f' g2 s2 R2 e2a F2 hf=>?_
  refine hQ f' g2 s2 R2 ?_ F2 hf;exact ((e1a.toX (X:=fun a=>FX C.nm env a\/a∈ws)).trans e2a).weak R.low (fun a o ho q=>q.resolve_right fun q=>by rw[hfr a q] at ho;cases ho) fun _ q=>q
end
end
section
section
theorem Rep.turn3 (R:Rep W fr g σ s)(tk:Nat)(C:Addr->Prop)(hC:∀a,C a->g a=.other/\W.s1.heap.get? a=none)(hX:XOk C g s.heap)(hfr:∀en∈fr,∀f,en.frame=some f->¬C f)(hg:∀a,¬C a->g' a=g a)(hg':∀a,C a->g' a=.other\/(g' a=.fz/\∃o,h'.get? a=some o))(hk:∀a o,s.heap.get? a=some o->¬C a->h'.get? a=some o):
    Rep W fr g' σ { s with heap:=h',toks:=tk }/\Evo W C noY g s.heap g' h':=by
  have hnC:∀{a:Addr},g a≠.other->¬C a:=fun {a} q hc=>q (hC a hc).1
  have hin:∀{a:Addr},g a≠.other->g' a=g a:=fun {a} q=>hg a (hnC q)
  have hback:∀a,g' a=g a\/g' a=.other\/(g' a=.fz/\∃o,h'.get? a=some o):=fun a=>by
    by_cases hc:C a
    . exact .inr (hg' a hc)
    . exact .inl (hg a hc)
  have hlc:∀a k,g' a=.loc k->g a=.loc k:=fun a k q=>by
    rcases hback a with r | r | ⟨r,_⟩
    . rw[<- r];exact q
    . rw[r] at q;cases q
    . rw[r] at q;cases q
  have hla:∀a k,g' a=.aux k->g a=.aux k:=fun a k q=>by
    rcases hback a with r | r | ⟨r,_⟩
    . rw[<- r];exact q
    . rw[r] at q;cases q
    . rw[r] at q;cases q
  have hnb:∀{a o},W.s1.heap.get? a=some o->¬C a:=fun {a o} ho hc=>by rw[(hC a hc).2] at ho;cases ho
  have hnt:∀{a},W.tab a->¬C a:=fun {a} ht hc=>Ib1 (hC a hc).2 ht
  have e:Evo W C noY g s.heap g' h':=⟨fun a o ho hx _=>.of (hk a o ho hx),fun a o n ho hq _=>hk a o ho (hnC (by rcases hq with q | q <;> rw[q] <;> nofun)),fun a q hx=>by rw[hin (by rw[q];nofun)];exact q,
    fun a n q=>by rw[hin (by rw[q];nofun)];exact q,fun a n q=>by rw[hin (by rw[q];nofun)];exact q,fun a o ho q hx=>.inl (by rw[hg a hx];exact q),fun a o ht ho=>⟨o,hk a o ho (hnt ht)⟩⟩
  refine ⟨⟨fun a o ho ht=>hk a o (R.base a o ho ht) (hnb ho),fun a o ho=>by rw[hg a (hnb ho)];exact R.baseO a o ho,
    fun a ht=>by rw[hg a (hnt ht)];exact R.tabO a ht,fun a ht=>?_,fun a ha=>?_,fun n ao ho=>?_,fun a b n qa qb=>R.uniq a b n (hlc a n qa) (hlc b n qb),R.pl,fun a n q=>R.bnd a n (q.imp (hlc a n) (hla a n)),fun en he=>?_,R.gens,R.os⟩,e⟩
  . refine qaj (R.tabs a ht) ?_;intro more h2 h3 h4;exact ⟨more,hk a _ h2 (hnt ht),h3,fun pos v q=>(h4 pos v q).mono e hX⟩
  . rcases hback a with r | r | ⟨_,r⟩
    . rw[r] at ha;refine Aq (R.low a ha) ?_;intro o ho;exact ⟨o,hk a o ho (hnC ha)⟩
    . exact absurd r ha
    . exact r
  . refine qa5 (R.locs n ao ho) ?_;intro a qa hr;exact ⟨a,e.loc a n qa,hr.mono e hX (fun o q=>hk a o q (hnC (by rw[qa];nofun))) (fun d hd o q=>hk d o q (hnC (by rw[hd];nofun))) ao (R.pl n ao ho)⟩
  . refine qah (R.frs en he) ?_;intro f o es ep h1 h2 h3 h4 h5;have hc:¬C f:=hfr en he f h1;exact ⟨f,o,es,ep,h1,hk f o h2 hc,h3,by rw[hg f hc];exact h4,h5⟩
theorem Fra.turn3 {X:Addr->Prop}(F:Fra C env m g h)(hXo:XOk X g h)(hXg:∀a,X a->g a=.other)(hxL:¬X env.locals)(hxc:∀c v,X c->h.get? c≠some (qay v))(e:Evo C.W X Y g h g' h'):Fra C env m g' h':=by
  have up:∀av v,RV C.W g h av v->RV C.W g' h' av v:=fun av v r=>r.mono e hXo av (.inl hXg) v
  refine qa5 (F.ns) ?_;intro mh ne_4_1 hm;refine qar ne_4_1 ?_;intro oL es ep hL hLd r;refine qaj ((e.keep _ _ hL hxL (.inr ⟨F.Lo,qb6 F.Lz⟩)).ex) ?_;intro oL' hL' hLd' _;rw[hLd] at hLd';refine ⟨F.kind,F.names,F.nd,F.glob,F.blt,F.code,?_,F.Lz,⟨mh,⟨oL',es,ep,hL',hLd',r⟩,fun i x av h1 h2=>?_⟩,fun i x k h1 h2=>?_,F.pl,F.inj⟩
  . rcases e.oth _ _ hL F.Lo hxL with q | ⟨_,u,q⟩
    . exact q
    . rw[hL'] at q;obtain rfl:=Sj q;cases hLd'
  . refine qa5 (hm i x av h1 h2) ?_;intro v h3 h4;exact ⟨v,h3,up _ _ h4⟩
  . refine qap (F.cell i x k h1 h2) ?_;intro c ov h3 h4 h5 h6 h7;have hx:¬X c:=fun q=>hxc c ov q h5
    have h5':h'.get? c=some (qay ov):=(e.keep _ _ h5 hx (h6.symm.imp id fun q=>⟨q,qb6 h4⟩)).get;refine ⟨c,ov,h3,h4,h5',?_,fun av q=>?_⟩
    . rcases h6 with q | q
      . exact (e.oth _ _ h5 q hx).imp id (·.1)
      . exact .inr (e.fz _ q hx)
    . refine qa5 (h7 av q) ?_;intro v h8 h9;exact ⟨v,h8,up _ _ h9⟩
theorem qal:∀{l l':List AV},plains (l++l')=(plains l&&plains l')
  | [],l'=>rfl
  | a::l,l'=>by show (plain a&&plains (l++l'))=((plain a&&plains l)&&plains l');rw[qal,Bool.and_assoc]
structure Acc (W:Wd) (g:Addr->Own) (h:Heap) (D:Addr) (acc:List AV):Prop where
  priv:Priv W g h D
  obj:∃vs n,h.get? D=some (qaa vs n)/\RVs W g h acc vs.toList
  pl:plains acc=true
theorem Acc.up {D:Addr}(a:Acc W g h D acc)(e:Evo W noX Y g h g' h'):Acc W g' h' D acc:=by
  refine qcr (a.obj) ?_;intro vs n ho hr;refine AD ?_ (Iat e a.priv ho);intro q p;exact ⟨p,⟨vs,n,q,hr.up e⟩,a.pl⟩
theorem Acc.frame {D:Addr}(F:Fra C env m g h)(e:Evo C.W (FX C.nm env) C.Y g h g' h')(a:Acc C.W g h D acc):Acc C.W g' h' D acc:=by
  refine qcr (a.obj) ?_;intro vs n ho hr;refine AD ?_ (Priv.keep F e a.priv ho);intro q p;exact ⟨p,⟨vs,n,q,hr.mono e F.xok acc (.inr a.pl) _⟩,a.pl⟩
theorem Acc.turn {X:Addr->Prop}{D:Addr}(a:Acc W g h D acc)(hX:∀a,X a->Priv W g h a)(hD:¬X D)(e:Evo W X Y g h g' h'):Acc W g' h' D acc:=by
  refine qcr (a.obj) ?_;intro vs n ho hr;have h1:=(e.keep D _ ho hD (.inr ⟨a.priv.own,Ib1 a.priv.new⟩)).get;refine ⟨⟨?_,a.priv.new,_,h1,by nofun,by nofun,by nofun,by simp⟩,⟨vs,n,h1,hr.mono e (Priv.xok hX) acc (.inr a.pl) _⟩,a.pl⟩;rcases e.oth D _ ho a.priv.own hD with q | ⟨_,v,q⟩
  . exact q
  . rw[h1] at q;injection q with q;injection q with q1 q2 q3;cases q3
theorem Acc.push (R:Rep W fr g σ s){D:Addr}{u:Value}(a:Acc W g s.heap D acc)(hv:RV W g s.heap v u)(hp:plain v=true)(hz:acc.length<=Ai)(hQ:∀s',Rep W fr g σ s'->Evo W (·=D) noY g s.heap g s'.heap->Acc W g s'.heap D (acc++[v])->Q .none s'):wpAny (model W.prog W.w) A (call (.builtin "list.append") [.ref D,u]) Q E s:=by
  refine qcr (a.obj) ?_;intro vs n ho hr;refine wpAny_list_append_plain (items:=vs) ?_ (fun h' hl hs=>?_) (by rw[<- AC,hr.length];exact hz)
  . exact ⟨n,ho⟩
  . have hX:∀b,b=D->Priv W g s.heap b:=fun b q=>q ▸ a.priv
    refine AD ?_ (R.turn2 (g':=g) (h':=h') s.toks (·=D) hX (fun _ _ _ _=>rfl) (fun b q=>.inl (q ▸ a.priv.own)) (fun b q=>.inl (R.newO q)) (fun b o q hb=>(hs.2 b hb).trans q));intro R' e';refine Aq hl ?_;intro n' hl;refine hQ _ R' e' ⟨⟨a.priv.own,a.priv.new,_,hl,by nofun,by nofun,by nofun,by simp⟩,⟨_,n',hl,?_⟩,?_⟩
    . rw[C8];exact (hr.mono e' (Priv.xok hX) acc (.inr a.pl) _).append ⟨u,[],rfl,hv.mono e' (Priv.xok hX) v (.inr hp) _,rfl⟩
    . exact by rw[qal,a.pl];show (true&&(plain v&&true))=true;rw[hp];rfl
end
end
section
def qip (prog:Dq) (w:World) (A:BF) (elt:Expr) (gens:List DA) (scope:Scope) (pos:Pos) (d:Nat) (acc:Value) (env:Env) (Q:Unit->Al->Prop) (E:Value->Al->Prop) (s:Al):Prop:=
  match gens[d+1]? with
  | some g'=>wpAny (model prog w) A (eval g'.iter env) (fun x s1a=>wpAny (model prog w) A (BA g'.iter env x) (fun x s2=>wpAny (model prog w) A (GP x) (fun it s3=>
      wpAny (model prog w) A (runOwn (.compStart (.ListComp elt gens scope pos) (d+1) it acc env) env) (fun _ s4=>Q () s4) E s3) E s2) E s1a) E s
  | none=>wpAny (model prog w) A (eval elt env) (fun x s1a=>wpAny (model prog w) A (call (.builtin "list.append") [acc,x]) (fun _ s2=>Q () s2) E s1a) E s
theorem qct (hg:gens[d]?=some ⟨t,iter,ifs,0⟩)(hns:∀g',gens[d+1]?=some g'->g'.is_async=0){acc:Value}(turn:wpAny (model prog w) A (pyNext it) (fun r s1a=>match r with
      | none=>R (.ok .next) s1a
      | some v=>wpAny (model prog w) A (D8 t it v) (fun _ s1'=>wpAny (model prog w) A (assign t env v) (fun _ s2=>
          wpAny (model prog w) A (forIn ifs true fun c r=>if r=true then do let ok <- isTrue c env (eval c env);pure (Ca ok) else pure (Ca r)) (fun ok s3=>
            if ok=true then qip prog w A elt gens scope pos d acc env (fun _ s5=>Cf (model prog w) A (.compLoop (.ListComp elt gens scope pos) d it acc env) R s5) (DH (model prog w) A env fun e s'=>R (.error e) s') s3
            else Cf (model prog w) A (.compLoop (.ListComp elt gens scope pos) d it acc env) R s3) (DH (model prog w) A env fun e s'=>R (.error e) s') s2) (DH (model prog w) A env fun e s'=>R (.error e) s') s1') (DH (model prog w) A env fun e s'=>R (.error e) s') s1a) (DH (model prog w) A env fun e s'=>R (.error e) s') s):
    Cf (model prog w) A (.compLoop (.ListComp elt gens scope pos) d it acc env) R s:=by
  refine Dy ?_;show wpAny _ A ((compTurn (.ListComp elt gens scope pos) d it acc env).onRaise (fun x=>do GL x env;Gn x)) _ _ s;refine wpAny_noted ?_;unfold compTurn;simp only[hg];unfold qip at turn;cases h:gens[d+1]? with
  | none=>
    rw[h] at turn;refine Aa (AP (Aa (AB turn (fun r s1a h1a=>?_) fun _ _ h'=>h')));cases r with
    | none=>exact Ag h1a
    | some v=>
      refine Aa (AB h1a (fun _ s1' h1'=>?_) fun _ _ h'=>h');refine Aa (AB h1' (fun _ s2 h2a=>Aa (AB h2a (fun ok s3 h3=>?_) fun _ _ h'=>h')) fun _ _ h'=>h');cases ok with
      | false=>exact Ag ⟨rfl,h3⟩
      | true=>exact Aa (Aa (AB h3 (fun x s4 h4=>Aa (AB h4 (fun _ s5 h5=>Ag (Ag ⟨rfl,h5⟩)) fun _ _ h'=>h')) fun _ _ h'=>h'))
  | some g'=>
    obtain ⟨t',i',f',a'⟩:=g';have h0:a'=0:=hns _ h;subst h0;rw[h] at turn;refine Aa (AP (Aa (AB turn (fun r s1a h1a=>?_) fun _ _ h'=>h')));cases r with
    | none=>exact Ag h1a
    | some v=>
      refine Aa (AB h1a (fun _ s1' h1'=>?_) fun _ _ h'=>h');refine Aa (AB h1' (fun _ s2 h2a=>Aa (AB h2a (fun ok s3 h3=>?_) fun _ _ h'=>h')) fun _ _ h'=>h');cases ok with
      | false=>exact Ag ⟨rfl,h3⟩
      | true=>
        refine Aa (AB h3 (fun x s4 h4=>Aa (AP ?_)) fun _ _ h'=>h');show wpAny _ A (BA i' env x >>= _) _ _ _;refine Aa (AB h4 (fun x s5 h5=>?_) fun _ _ h'=>h');refine Aa (AK ?_);show wpAny _ A (GP x) _ _ _;exact AB h5 (fun it s6 h6=>Aa (AB h6 (fun _ s7 h7=>Ag ⟨rfl,h7⟩) fun _ _ h'=>h')) fun _ _ h'=>h'
theorem qbz (hg:gens[d]?=some ⟨t,iter,ifs,0⟩){acc:Value}(h0:Cf (model prog w) A (.compLoop (.ListComp elt gens scope pos) d it acc env) R s)(h:wpAny (model prog w) A (GP it) (fun it' s'=>Cf (model prog w) A (.compLoop (.ListComp elt gens scope pos) d it' acc env) R s') (DH (model prog w) A env fun x s'=>R (.error x) s') s):
    Cf (model prog w) A (.compStart (.ListComp elt gens scope pos) d it acc env) R s:=by
  refine Dy ?_;show wpAny _ _ ((compStart (.ListComp elt gens scope pos) d it acc env).onRaise (fun x=>do GL x env;Dd theWindowsPlace)) _ _ s;refine wpAny_notedAt ?_;unfold compStart;have hc:clausesOf (.ListComp elt gens scope pos)=gens:=rfl;rw[hc,hg];show wpAny _ _ (ask >>= _) _ _ s;refine Aa (wpAny_askSetting (wpAny_ite ?_));split
  . first
      | exact Aa (Ag (Ag (GM rfl h0)))
      | exact Ag (GM rfl h0)
  . first
      | exact Aa (GQ (Aa (AP (Aa (AB h (fun it' s' h'=>Ag (GM rfl h')) fun _ _ x=>x)))))
      | (refine Aa (GQ ?_);show wpAny _ _ (Dd iter.pos >>= _) _ _ s;exact Aa (AP (Aa (AB h (fun it' s' h'=>Ag (GM rfl h')) fun _ _ x=>x))))
def Tests (C:Cx) (k:Nat) (fr:List Env) (m:List (Option AV)) (σ:List AObj) (ifs:List Expr) (b:Bool) (z':List AObj):Prop:=
  ∀(A:BF) (env:Env) (g:Addr->Own) (s:Al),Room k fr A->Rep C.W fr g σ s->Fra C env m g s.heap->∀(Q:Bool->Al->Prop) (E:Value->Al->Prop),
    (∀g' s',Rep C.W fr g' z' s'->Evo C.W noX C.Y g s.heap g' s'.heap->Q b s') ->
    wpAny (model C.W.prog C.W.w) A (forIn ifs true fun c r=>if r=true then do let ok <- isTrue c env (eval c env);pure (Ca ok) else pure (Ca r)) Q E s
def CompC (C:Cx) (k:Nat) (fr:List Env) (elt:Expr) (gens:List DA) (scope:Scope) (pos:Pos) (d:Nat) (ai:AIt) (i:Nat) (m:List (Option AV)) (σ:List AObj) (acc:List AV) (m':List (Option AV)) (z':List AObj) (acc':List AV):Prop:=
  ∀(A:BF) (env:Env) (g:Addr->Own) (s:Al) (it:Value) (ws:List Addr) (D:Addr),Room k fr A->Rep C.W fr g σ s->Fra C env m g s.heap->ai.St C.W g s.heap ws it i->(∀a∈ws,Priv C.W g s.heap a)->Acc C.W g s.heap D acc->D∉ws->∀(R:GZ->Al->Prop),
    (∀g' s',Rep C.W fr g' z' s'->Evo C.W (fun a=>FX C.nm env a\/a=D\/a∈ws) C.Y g s.heap g' s'.heap->Fra C env m' g' s'.heap->Acc C.W g' s'.heap D acc'->R (.ok .next) s') ->
    Cf (model C.W.prog C.W.w) A (.compLoop (.ListComp elt gens scope pos) d it (.ref D) env) R s
def Inner (C:Cx) (k:Nat) (fr:List Env) (elt:Expr) (gens:List DA) (scope:Scope) (pos:Pos) (d:Nat) (m:List (Option AV)) (σ:List AObj) (acc:List AV) (m':List (Option AV)) (z':List AObj) (acc':List AV):Prop:=
  ∀(A:BF) (env:Env) (g:Addr->Own) (s:Al) (D:Addr),Room k fr A->Rep C.W fr g σ s->Fra C env m g s.heap->Acc C.W g s.heap D acc->∀(Q:Unit->Al->Prop) (E:Value->Al->Prop),
    (∀g' s',Rep C.W fr g' z' s'->Evo C.W (fun a=>FX C.nm env a\/a=D) C.Y g s.heap g' s'.heap->Fra C env m' g' s'.heap->Acc C.W g' s'.heap D acc'->Q () s') ->
    qip C.W.prog C.W.w A elt gens scope pos d (.ref D) env Q E s
section
variable {acc1 acc':List AV}
theorem Tests.nil:Tests C k fr m σ [] true σ:=fun A env g s rm R F Q E hQ=>wpAny_tests_nil (hQ g s R Evo.refl)
theorem Tests.one {c:Expr}{b:Bool}(h:Tr C k fr m σ c b z'):Tests C k fr m σ [c] b z':=fun A env g s rm R F Q E hQ=>wpAny_tests_one (h A env g s rm R F Q E hQ)
theorem Ibk (hn:gens[d+1]?=none)(he:Ev C k fr m σ elt v z')(hp:plain v=true)(hz:acc.length<=Ai):Inner C k fr elt gens scope pos d m σ acc m z' (acc++[v]):=fun A env g s D rm R F a Q E hQ=>by
  unfold qip;rw[hn];refine he A env g s rm R F _ _ fun v' g1 s1a R1 e1a rv=>?_
  refine Acc.push R1 (a.up e1a) rv hp hz fun s2 R2 e2a a2=>?_
  have F1:=F.up e1a;have hX:∀b,b=D->Priv C.W g1 s1a.heap b:=fun b q=>q ▸ (a.up e1a).priv
  exact hQ g1 s2 R2 (e1a.toX.trans (e2a.inX fun _ q=>.inr q).toY) (F1.turn hX e2a) a2
theorem Inner.nest (hn:gens[d+1]?=some ⟨t,iter,ifs,0⟩)(hi:ItE C k fr m σ iter ai z1)(hc:CompC C k fr elt gens scope pos (d+1) ai 0 m z1 acc m' z' acc')(hs:autoParam (∀x env,BA iter env x=pure x) ap0._auto_1):
    Inner C k fr elt gens scope pos d m σ acc m' z' acc':=fun A env g s D rm R F a Q E hQ=>by
  unfold qip;rw[hn];refine (AB (hi A env g s rm R F (fun it s'=>∃g' ws,Rep C.W fr g' z1 s'/\Evo C.W noX C.Y g s.heap g' s'.heap/\ai.St C.W g' s'.heap ws it 0/\(∀a∈ws,Priv C.W g' s'.heap a)/\(∀a∈ws,s.heap.get? a=none)) E fun it g' s' ws R' e' S hP hf=>⟨g',ws,R',e',S,hP,hf⟩) (fun x s1a h1a=>?_) fun _ _ e=>e);show wpAny _ A (BA iter env x) _ _ _;rw[hs];refine Ag ?_;refine AB h1a (fun it s2 h2a=>?_) fun _ _ e=>e
  refine qap (h2a) ?_;intro g2 ws R2 e2a S hP hf;have hD:D∉ws:=fun q=>by refine qa5 (a.priv.obj) ?_;intro o ho _;rw[hf D q] at ho;cases ho
  refine wpAny_runOwn ?_;have loop:Cf (model C.W.prog C.W.w) A (.compLoop (.ListComp elt gens scope pos) (d+1) it (.ref D) env) (fun r s'=>match r with | .ok f=>Q () s' | .error e=>cameBackBy (model C.W.prog C.W.w) A env E e s') s2:=
    hc A env g2 s2 it ws D rm R2 (F.up e2a) S hP (a.up e2a) hD _ fun g3 s3 R3 e3a F3 a3=>by
      refine hQ g3 s3 R3 ?_ F3 a3;exact ((e2a.toX (X:=fun a=>FX C.nm env a\/a=D\/a∈ws)).trans e3a).weak R.low (fun b o ho q=>by
        rcases q with q | q | q
        . exact .inl q
        . exact .inr q
        . rw[hf b q] at ho;cases ho) fun _ q=>q
  exact qbz hn loop (Idd S loop)
theorem CompC.done (hg:gens[d]?=some ⟨t,iter,ifs,0⟩)(hO:ai.Ok σ)(hi:ai.items.length=i)(hns:∀g',gens[d+1]?=some g'->g'.is_async=0):CompC C k fr elt gens scope pos d ai i m σ acc m σ acc:=fun A env g s it ws D rm R F S hP a hD Rr hR=>by
  refine qct hg hns (Icr hO rm R S hP hi fun g1 s1a R1 e1a=>?_);exact hR g1 s1a R1 (e1a.inX fun _ q=>.inr (.inr q)).toY (F.turn hP e1a) (a.turn hP hD e1a)
theorem CompC.turn {b:Bool}(hg:gens[d]?=some ⟨t,iter,ifs,0⟩)(hO:ai.Ok σ)(hp:ai.plain=true)(hv:ai.items[i]?=some v)(ht:ai.pairs=true->∃elts n p,t=.Tuple elts n p)(ha:As C k fr m σ t v m1 z1)(hb:Tests C k fr m1 z1 ifs b z2)(hn:(b=true/\Inner C k fr elt gens scope pos d m1 z2 acc m2 z3 acc1)\/(b=false/\m2=m1/\z3=z2/\acc1=acc))(hr:CompC C k fr elt gens scope pos d ai (i+1) m2 z3 acc1 m' z' acc')(hns:∀g',gens[d+1]?=some g'->g'.is_async=0):CompC C k fr elt gens scope pos d ai i m σ acc m' z' acc':=fun A env g s it ws D rm R F S hP a hD Rr hR=>by
  refine qct hg hns (AB (AIt.step (t:=t) hO rm R S hP hv ht (Q:=fun v' s1a=>∃g1,Rep C.W fr g1 σ s1a/\Evo C.W (·∈ws) noY g s.heap g1 s1a.heap/\ai.St C.W g1 s1a.heap ws it (i+1)/\(∀a∈ws,Priv C.W g1 s1a.heap a)/\RV C.W g1 s1a.heap v v')
    fun v' g1 s1a R1 e1a S1 hP1 rv=>⟨g1,R1,e1a,S1,hP1,rv⟩) (fun r s1a h1a=>?_) fun _ _ e=>e)
  refine qa5 (h1a) ?_;(try clear h1a);intro v' eq_3_1 h1a;subst eq_3_1;refine AB h1a (fun _ s1' h1'=>?_) fun _ _ e=>e
  refine qet (h1') ?_;intro g1 R1 e1a S1 hP1 rv;have F1:=F.turn hP e1a;have a1a:=a.turn hP hD e1a;refine ha A env g1 s1' v' rm R1 F1 rv _ _ fun g2 s2 R2 e2a F2=>?_
  have keep:∀{g1 g2:Addr->Own} {h1a h2a:Heap} {m:List (Option AV)},Fra C env m g1 h1a->Evo C.W (FX C.nm env) C.Y g1 h1a g2 h2a->(∀a∈ws,Priv C.W g1 h1a a)->(∀a∈ws,∀o,h1a.get? a=some o->h2a.get? a=some o)/\∀a∈ws,Priv C.W g2 h2a a:=fun {g1 g2 h1a h2a m} F e hP=>
    ⟨fun a ha o ho=>(Priv.keep F e (hP a ha) ho).1,fun a ha=>by refine qa5 ((hP a ha).obj) ?_;intro o ho _;exact (Priv.keep F e (hP a ha) ho).2⟩
  refine AD ?_ (keep F1 e2a hP1);intro k2 hP2;have S2:=AIt.St.mono e2a F1.xok k2 ai (.inr hp) S1;have a2:=Acc.frame F1 e2a a1a;refine hb A env g2 s2 rm R2 F2 _ _ fun g3 s3 R3 e3a=>?_
  have F3:=F2.up e3a;have a3:=a2.up e3a;have hP3:∀a∈ws,Priv C.W g3 s3.heap a:=fun a ha=>by refine qa5 ((hP2 a ha).obj) ?_;intro o ho _;exact (Iat e3a (hP2 a ha) ho).2
  have S3:=AIt.St.mono e3a XOk.no (fun a ha o ho=>(Iat e3a (hP2 a ha) ho).1) ai (.inr hp) S2;have e13:Evo C.W (fun a=>FX C.nm env a\/a=D\/a∈ws) C.Y g s.heap g3 s3.heap:=((e1a.inX fun _ q=>.inr (.inr q)).toY.trans (e2a.inX fun _ q=>.inl q)).trans e3a.toX;rcases hn with ⟨rfl,hn⟩ | ⟨rfl,rfl,rfl,rfl⟩
  . rw[if_pos rfl];refine hn A env g3 s3 D rm R3 F3 a3 _ _ fun g4 s4 R4 e4 F4 a4=>?_
    have hXo:XOk (fun a=>FX C.nm env a\/a=D) g3 s3.heap:=fun b hb=>by
      rcases hb with hb | rfl
      . exact F3.xok b hb
      . exact Priv.xok (C:=(·=b)) (fun c q=>q ▸ a3.priv) b rfl
    have k4:∀a∈ws,∀o,s3.heap.get? a=some o->s4.heap.get? a=some o/\Priv C.W g4 s4.heap a:=fun a ha o ho=>by
      refine qbx ((hP3 a ha).obj) ?_;intro o' ho' hd hc hk;rw[ho] at ho';obtain rfl:=Sj ho';have hx:¬(FX C.nm env a\/a=D):=fun q=>by
        rcases q with (rfl | ⟨i,x,hi,hcl⟩) | rfl
        . refine qa5 (F3.ns) ?_;intro mh ne_9_1 _;refine qar ne_9_1 ?_;intro oL es ep hL hLd _;rw[ho] at hL;obtain rfl:=Sj hL;exact hd _ _ hLd
        . refine qb3 (F3.cell i x .cell hi rfl) ?_;intro c ov h3 h4 h5 _;rw[hcl] at h3;obtain rfl:=Sj h3;rw[ho] at h5;obtain rfl:=Sj h5;exact hc _ rfl
        . exact hD ha
      have h1:=(e4.keep a o ho hx (.inr ⟨(hP3 a ha).own,Ib1 (hP3 a ha).new⟩)).get hk.2;refine ⟨h1,?_,(hP3 a ha).new,o,h1,hd,hc,hk⟩;rcases e4.oth a o ho (hP3 a ha).own hx with q | ⟨_,v,q⟩
      . exact q
      . rw[h1] at q;obtain rfl:=Sj q;exact absurd rfl (hc v)
    have S4:=AIt.St.mono e4 hXo (fun a ha o ho=>(k4 a ha o ho).1) ai (.inr hp) S3;exact hr A env g4 s4 it ws D rm R4 F4 S4 (fun a ha=>by refine qa5 ((hP3 a ha).obj) ?_;intro o ho _;exact (k4 a ha o ho).2) a4 hD Rr fun g5 s5 R5 e5 F5 a5=>
      hR g5 s5 R5 ((e13.trans (e4.inX fun b q=>q.elim .inl fun q=>.inr (.inl q))).trans e5) F5 a5
  . rw[if_neg (by simp)];exact hr A env g3 s3 it ws D rm R3 F3 S3 hP3 a3 hD Rr fun g5 s5 R5 e5 F5 a5=>hR g5 s5 R5 (e13.trans e5) F5 a5
end
end
section
theorem qd0 (h : ∀ (i : Nat) (x : Str), scope.names[i]? = some (x, .free) -> ∃ c, env.cells.lookup x = some c):
    ∃ cl, closureFor scope env = pure cl /\ ∀ (i : Nat) (x : Str), scope.names[i]? = some (x, .free) -> cl.lookup x = env.cells.lookup x := by
  have key : ∀ (l : List (Str×Ax)) (cs : List (Str×Addr)), (∀ x c, cs.lookup x = some c -> env.cells.lookup x = some c) -> (∀ (i : Nat) (x : Str), l[i]? = some (x, .free) -> ∃ c, env.cells.lookup x = some c) ->
      ∃ cl, (forIn l cs fun x c => (if x.2==.free then do let a <- GO env x.1; pure (.yield ((x.1, a)::c)) else pure (.yield c) : Sem (ForInStep (List (Str×Addr))))) = pure cl /\
        (∀ x c, cl.lookup x = some c -> env.cells.lookup x = some c) /\ (∀ x, cs.lookup x ≠ none -> cl.lookup x ≠ none) /\ ∀ (i : Nat) (x : Str), l[i]? = some (x, .free) -> cl.lookup x ≠ none := by
    intro l;induction l with
    | nil => intro cs h1 _; exact ⟨cs, by rw[Dh], h1, fun _ h => h, fun i x h => by simp at h⟩
    | cons p l ih =>
      intro cs h1 h2;obtain ⟨x, k⟩ := p;rw[Cj];by_cases hk : k = .free
      . subst hk;refine Aq (h2 0 x rfl) ?_;intro c hc;have hcell : GO env x = pure c := by unfold GO; rw[hc]
        have hin : ∀ y d, ((x, c)::cs).lookup y = some d -> env.cells.lookup y = some d := fun y d q => by
          rw[AU] at q;cases hb : y==x with
          | true => rw[hb] at q; have hyx : y = x := by simpa using hb
                    subst hyx; (first | (have q__ := Sj q; subst q__) | (have q__ := q; subst q__) | cases q); exact hc
          | false => rw[hb] at q; exact h1 y d q
        refine qbx (ih ((x, c)::cs) hin (fun i y q => h2 (i+1) y (by simpa using q))) ?_; intro cl e1 e2 e3 e4;refine ⟨cl, ?_, e2, fun y q => e3 y ?_, fun i y q => ?_⟩
        . simp only[beq_self_eq_true, if_true, hcell, pure_bind];exact e1
        . rw[AU]; cases hb : y==x with
          | true => simp
          | false => exact q
        . cases i with
          | zero => simp at q; subst q; exact e3 x (by simp)
          | succ i => exact e4 i y (by simpa using q)
      . have hkb : (k==EK) = false := by simpa using hk
        refine qbx (ih cs h1 (fun i y q => h2 (i+1) y (by simpa using q))) ?_; intro cl e1 e2 e3 e4;refine ⟨cl, ?_, e2, e3, fun i y q => ?_⟩
        . simp only[hkb, AY, if_false, pure_bind];exact e1
        . cases i with
          | zero => simp at q; exact absurd q.2 hk
          | succ i => exact e4 i y (by simpa using q)
  refine qbx (key scope.names [] (fun _ _ h => by simp at h) h) ?_; intro cl e1 e2 e3 e4;refine ⟨cl, ?_, fun i x q => ?_⟩
  . unfold closureFor;have : (forIn scope.names ([] : List (Str×Addr)) fun x c => (if x.2==.free then do let a <- GO env x.1; pure (.yield ((x.1, a)::c)) else pure (.yield c) : Sem (ForInStep (List (Str×Addr))))) = pure cl := e1;exact (congrArg (· >>= fun r => pure r) this).trans rfl
  . cases hc : cl.lookup x with
    | none => exact absurd hc (e4 i x q)
    | some c => exact (e2 x c hc).symm
theorem qcj:∀{names:List (Str×Ax)} {x:Str} {k:Ax},names.lookup x=some k ->
    ∃k',(names.map fun (n,k)=>if (k==EK&&env.scope.kind==.function&&env.kindOf n==some .cell) then (n,Ax.cell) else (n,k)).lookup x=some k'/\kcl k'=kcl k
  | [],_,_,h=>by simp at h
  | (n,k0)::r,x,k,h=>by
    show ∃k',List.lookup x ((if (k0==EK&&env.scope.kind==.function&&env.kindOf n==some .cell)=true then (n,Ax.cell) else (n,k0))::_)=some k'/\_;cases hx:x==n with
    | true=>
      simp only[AU,hx] at h;obtain rfl:=Sj h;by_cases hc:(k0==EK&&env.scope.kind==.function&&env.kindOf n==some .cell)=true
      . rw[if_pos hc];refine ⟨.cell,by simp only[AU,hx],?_⟩;simp at hc;rw[hc.1.1];rfl
      . rw[if_neg hc];exact ⟨k0,by simp only[AU,hx],rfl⟩
    | false=>
      simp only[AU,hx] at h;by_cases hc:(k0==EK&&env.scope.kind==.function&&env.kindOf n==some .cell)=true
      . rw[if_pos hc];simp only[AU,hx];exact qcj h
      . rw[if_neg hc];simp only[AU,hx];exact qcj h
structure CompIn (C:Cx) (m:List (Option AV)) (names:List (Str×Ax)) (m0:List (Option AV)):Prop where
  nd:∀(i j:Nat) (x:Str) (k k':Ax),names[i]?=some (x,k)->names[j]?=some (x,k')->i=j
  len:m0.length=names.length
  free:∀(i:Nat) (x:Str),names[i]?=some (x,.free)->∃(j:Nat) (kd:Ax),C.nm[j]?=some (x,kd)/\kcl kd=1/\∀av,m0[i]?=some (some av)->m[j]?=some (some av)
  rest:∀(i:Nat) (x:Str) (k:Ax),names[i]?=some (x,k)->k≠.free->∀av,m0[i]?≠some (some av)
  pl:(∀(i:Nat) (x:Str),names[i]?≠some (x,.cell))\/∀(i:Nat) (av:AV),m0[i]?=some (some av)->plain av=true
theorem qca (nd:∀(i j:Nat) (x:Str) (k k':Ax),names[i]?=some (x,k)->names[j]?=some (x,k')->i=j):∀(i:Nat) (x:Str) (k:Ax),names[i]?=some (x,k)->names.lookup x=some k:=by
  induction names with
  | nil=>intro i x k h;simp at h
  | cons p l ih=>
    intro i x k h;obtain ⟨y,k'⟩:=p;rw[AU];cases i with
    | zero=>simp at h;rw[h.1,h.2];simp
    | succ i=>
      have hb:(x==y)=false:=by
        have:x≠y:=fun q=>by subst q;have:=nd (i+1) 0 x k k' h rfl;lia
        simpa using this
      rw[hb];exact ih (fun i j x k k' h1 h2=>by have:=nd (i+1) (j+1) x k k' (by simpa using h1) (by simpa using h2);lia) i x k (by simpa using h)
section
variable {m0 mc:List (Option AV)} {acc':List AV}
theorem qj4 {rest:List DA}{use:Option (Value->Sem Unit)}(hk:scope.kind=.function)(hi:ItE C k fr m σ iter ai z1)(hin:CompIn C m scope.names m0)(hc:CompC { C with nm:=scope.names } k fr elt (⟨t,iter,ifs,0⟩::rest) scope pos 0 ai 0 m0 z1 [] mc z' acc')(hs:∀x env,BA iter env x=pure x)(rm:Room k fr A)(R:Rep C.W fr g σ s)(F:Fra C env m g s.heap)(hQ:∀g' s' D L,Rep C.W fr g' z' s'->Evo C.W noX C.Y g s.heap g' s'.heap->RV C.W g' s'.heap (.lst acc') (.ref D)->s.heap.get? L=none->g' L=.other->(∃mh,s'.heap.Ns L mh)->C.W.s1.heap.get? L=none ->
      compPost (model C.W.prog C.W.w) A E use Q (.ref D) L (.ok .next) s'):
    wpAny (model C.W.prog C.W.w) A (comprehension (.ListComp elt (⟨t,iter,ifs,0⟩::rest) scope pos) scope env p (newList []) false (eval iter env) use) Q E s:=by
  obtain ⟨cl,hcl,hlk⟩:=qd0 (scope:=scope) (env:=env) fun i x hx=>by
    refine qa1 (hin.free i x hx) ?_;intro j kd h1 h2 h3;refine qcr (F.cell j x kd h1 h2) ?_;intro c ov h4 _;exact ⟨c,h4⟩
  refine wpAny_comprehension_free (g:=⟨t,iter,ifs,0⟩) rfl (fun x=>hs x env) hcl hk (fun x hx hl=>by
    obtain ⟨i,hi,hx'⟩:=C9.mp hx;obtain ⟨y,ky⟩:=x;obtain rfl:ky=.local:=hl;exact qca hin.nd i y _ (by rw[Ad hi,hx'])) ?_
  refine hi A env g s rm R F _ _ fun it g1 s1a ws R1 e1a S hP hf=>?_
  refine BO (AB (Q:=fun cenv s4=>Cf (model C.W.prog C.W.w) A (.compStart (.ListComp elt (⟨t,iter,ifs,0⟩::rest) scope pos) 0 it (.ref s1a.heap.objs.size) { cenv with scope:=GV scope env }) (compPost (model C.W.prog C.W.w) A E use Q (.ref s1a.heap.objs.size) cenv.locals) s4) ?_ (fun cenv s4 h=>h) fun _ _ e=>e) (by size_fits);refine qgj (R1.newPriv { cls:=.type "list",data:=.seq ([]:List Value).toArray } rfl nofun nofun ⟨by exact nofun,by simp⟩) ?_;intro R2 e2a p2;have hD2:(s1a.heap.push { cls:=.type "list",data:=.seq ([]:List Value).toArray }).get? s1a.heap.objs.size=some (qaa ([]:List Value).toArray 0):=Ar _ rfl;have A2:Acc C.W g1 (s1a.heap.push { cls:=.type "list",data:=.seq ([]:List Value).toArray }) s1a.heap.objs.size []:=⟨p2,⟨_,_,hD2,rfl⟩,rfl⟩
  have F2:=(F.up e1a).up e2a;have hDn:s.heap.get? s1a.heap.objs.size=none:=Ib0 R e1a R1 (qai _);have hD:s1a.heap.objs.size∉ws:=fun q=>by refine qa5 ((hP _ q).obj) ?_;intro o ho _;rw[qai] at ho;cases ho
  rw[show env.globals=Bk from F.glob];refine qcs (C:={ C with nm:=scope.names }) (xs:=[]) (vs:=[]) (us:=[]) (m0:=m0) (m1:=m0) rfl hin.nd hk (qca hin.nd) (by exact F.code) (fun o h=>by obtain rfl:=Sj h;exact F.blt) R2 (fun i x kd hx=>⟨fun hkf=>?_,fun hkf=>hin.rest i x kd hx hkf⟩) hin.pl .nil rfl hin.len fun cenv g3 s3 R3 e3a F3 hsc hL hcells hown _ hfr _=>?_
  . subst hkf;refine qa1 (hin.free i x hx) ?_;intro j kj h1 h2 h3;refine qap (F2.cell j x kj h1 h2) ?_;intro c ov h4 h5 h6 h7 h8;exact ⟨c,ov,by rw[hlk i x hx];exact h4,h5,h6,h7,fun av q=>h8 av (h3 av q)⟩
  . have F3':Fra { C with nm:=scope.names } { cenv with scope:=GV scope env } m0 g3 s3.heap:={ F3 with
        kind:=hk
        names:=fun i x kd hx=>by
          refine qa5 (qcj (env:=env) (qca hin.nd i x kd hx)) ?_;intro k' h1 h2;exact ⟨k',h1,h2⟩ }
    have S2:=AIt.St.mono e2a XOk.no (fun a ha o ho=>(Iat e2a (hP a ha) ho).1) ai (.inl fun _ q=>q.elim) S;have hP2:∀a∈ws,Priv C.W g1 (s1a.heap.push { cls:=.type "list",data:=.seq ([]:List Value).toArray }) a:=fun a ha=>by
      refine qa5 ((hP a ha).obj) ?_;intro o' ho' _;exact (Iat e2a (hP a ha) ho').2
    have S3:=AIt.St.mono e3a XOk.no (fun a ha o ho=>(Iat e3a (hP2 a ha) ho).1) ai (.inl fun _ q=>q.elim) S2;have hP3:∀a∈ws,Priv C.W g3 s3.heap a:=fun a ha=>by
      refine qa5 ((hP2 a ha).obj) ?_;intro o' ho' _;exact (Iat e3a (hP2 a ha) ho').2
    have A3:=A2.up e3a;have e13:Evo C.W noX C.Y g s.heap g3 s3.heap:=(e1a.trans e2a.no).trans e3a.no;have hLn:s.heap.get? cenv.locals=none:=Ib0 R (e1a.trans e2a.no) R2 hL;have hcn:∀b,FX scope.names { cenv with scope:=GV scope env } b->s.heap.get? b=none:=fun b hb=>by
      rcases hb with rfl | ⟨i,x,hx,hc⟩
      . exact hLn
      . exact Ib0 R (e1a.trans e2a.no) R2 (hown i x b hx hc)
    have loop:Cf (model C.W.prog C.W.w) A (.compLoop (.ListComp elt (⟨t,iter,ifs,0⟩::rest) scope pos) 0 it (.ref s1a.heap.objs.size) { cenv with scope:=GV scope env }) (compPost (model C.W.prog C.W.w) A E use Q (.ref s1a.heap.objs.size) cenv.locals) s3:=by
      refine hc A { cenv with scope:=GV scope env } g3 s3 it ws s1a.heap.objs.size rm R3 F3' S3 hP3 A3 hD _ fun g4 s4 R4 e4 F4 A4=>?_
      have e14:Evo C.W noX C.Y g s.heap g4 s4.heap:=((e13.toX (X:=fun a=>FX scope.names { cenv with scope:=GV scope env } a\/a=s1a.heap.objs.size\/a∈ws)).trans e4).weak R.low (fun b o ho q=>by
        rcases q with q | q | q
        . rw[hcn b q] at ho;cases ho
        . subst q;rw[hDn] at ho;cases ho
        . rw[hf b q] at ho;cases ho) fun _ q=>q
      refine qcr (A4.obj) ?_;intro vs n hDo hDr;have hX:∀b,b=s1a.heap.objs.size->Priv C.W g4 s4.heap b:=fun b q=>q ▸ A4.priv
      obtain ⟨R5,e5⟩:=R4.turn2 (g':=qc6 g4 s1a.heap.objs.size .fz) (h':=s4.heap) s4.toks (·=s1a.heap.objs.size) hX (fun b o _ q=>qa9 q) (fun b q=>by subst q;exact .inr ⟨qa4,_,hDo⟩) (fun b q=>.inl (by
          rw[qa9 (fun q'=>by subst q';rw[hDo] at q;cases q)];exact R4.newO q)) (fun b o q _=>q)
      have e15:Evo C.W noX C.Y g s.heap (qc6 g4 s1a.heap.objs.size .fz) s4.heap:=((e14.toX (X:=(·=s1a.heap.objs.size))).trans e5.toY).weak R.low (fun b o ho q=>by subst q;rw[hDn] at ho;cases ho) fun _ q=>q
      have hLD:cenv.locals≠s1a.heap.objs.size:=fun q=>by
        refine qa5 (F4.ns) ?_;intro mh ne_18_1 _;refine qar ne_18_1 ?_;intro oL es ep h1 h2 _;have h1':s4.heap.get? cenv.locals=some oL:=h1;rw[q,hDo] at h1';obtain rfl:=Sj h1';cases h2
      refine hQ (qc6 g4 s1a.heap.objs.size .fz) s4 s1a.heap.objs.size cenv.locals R5 e15 ⟨_,vs,n,rfl,qa4,hDo,hDr.mono e5 (Priv.xok hX) acc' (.inl fun b q=>(hX b q).own) _⟩ hLn (by rw[qa9 hLD];exact F4.Lo) ?_ F4.Lz;refine qa5 (F4.ns) ?_;intro mh h1 _;exact ⟨mh,h1⟩
    exact qbz (t:=t) (iter:=iter) (ifs:=ifs) rfl loop (Idd S3 loop)
theorem qgu {s0:Al}{g0:Addr->Own}{L:Addr}(R0:Rep W fr g0 z1 s0)(R:Rep W fr g σ s)(hL0:s0.heap.get? L=none)(hLg:g L=.other)(hL1:W.s1.heap.get? L=none)(hns:∃mh,s.heap.Ns L mh)(hs:AQ L s.heap h'):
    Rep W fr g σ { s with heap:=h' }/\Evo W (·=L) noY g s.heap g h'/\XOk (·=L) g s.heap:=by
  refine qdo (hns) ?_;intro mh oL es ep h1 h2 _;have hX:XOk (·=L) g s.heap:=fun a ha=>by
    subst ha;exact ⟨.inl hLg,fun o vs ho hd=>by rw[h1] at ho;obtain rfl:=Sj ho;rw[h2] at hd;cases hd⟩
  obtain ⟨R',e'⟩:=R.turn3 (g':=g) (h':=h') s.toks (·=L) (fun a ha=>ha ▸ ⟨hLg,hL1⟩) hX (fun en he f hf q=>by
    refine qdo (R0.frs en he) ?_;intro f' o es' ep' h3 h4 _;rw[hf] at h3;obtain rfl:=Sj h3;subst q;rw[hL0] at h4;cases h4) (fun _ _=>rfl) (fun a ha=>.inl (ha ▸ hLg)) (fun a o ho ha=>(hs.2 a ha).trans ho)
  exact ⟨R',e',hX⟩
theorem Iak {rest:List DA}(hi:ItE C k fr m σ iter ai z1)(hin:CompIn C m scope.names m0)(hc:CompC { C with nm:=scope.names } k fr elt (⟨t,iter,ifs,0⟩::rest) scope pos 0 ai 0 m0 z1 [] mc z' acc')(hk:autoParam (scope.kind=.function) ap0._auto_1)(hs:autoParam (∀x env,BA iter env x=pure x) ap0._auto_1):
    Ev C k fr m σ (.ListComp elt (⟨t,iter,ifs,0⟩::rest) scope pos) (.lst acc') z':=fun A env g s rm R F Q E hQ=>by
  rw[eval_ListComp];refine qj4 (use:=none) hk hi hin hc hs rm R F fun g' s' D L R' e' rv hL0 hLg hns hL1=>?_
  obtain ⟨mh,hn⟩:=id hns;refine ⟨mh,hn,fun h' hs'=>?_⟩;refine qgj (qgu R R' hL0 hLg hL1 hns hs') ?_;intro R2 e2a hX;exact hQ _ g' _ R2 (((e'.toX (X:=(·=L))).trans e2a.toY).weak R.low (fun b o ho q=>by subst q;rw[hL0] at ho;cases ho) fun _ q=>q) (rv.mono e2a hX _ (.inl fun b q=>q ▸ hLg) _)
theorem Ib8 {rest:List DA}(hx:C.nm[i]?=some (x,.local))(hi:ItE C k fr m σ iter ai z1)(hin:CompIn C m scope.names m0)(hc:CompC { C with nm:=scope.names } k fr elt (⟨t,iter,ifs,0⟩::rest) scope pos 0 ai 0 m0 z1 [] mc z' acc')(hp:plains acc'=true)(hk:autoParam (scope.kind=.function) ap0._auto_1)(hs:autoParam (∀x env,BA iter env x=pure x) ap0._auto_1):
    Ex C k fr m σ (.Assign [.Name x px] (.ListComp elt (⟨t,iter,ifs,0⟩::rest) scope pos) p) .next (m.set i (some (.lst acc'))) z':=fun A env g s rm R F Q E hQ=>by
  refine qa5 (F.names i x _ hx) ?_;intro k' h3 h4;have hkk:k'=.local:=by cases k' <;> first | rfl | (exact absurd h4 (by decide))
  subst hkk;have hsw:∀b,swapsWith (.ListComp elt (⟨t,iter,ifs,0⟩::rest) scope pos) (some (.Name x px)) p.line env=pure b->wpAny (model C.W.prog C.W.w) A (exec (.Assign [.Name x px] (.ListComp elt (⟨t,iter,ifs,0⟩::rest) scope pos) p) env) Q E s:=fun b hb=>by
    cases b with
    | false=>
      refine CE (Iak hi hin hc hk hs A env g s rm R F _ _ fun v' g1 s1a R1 e1a rv=>?_) hb (by rfl);show wpAny _ A (GJ v' ((CR [.Name x px] env).map (·.2))) _ _ _;rw[show (CR [.Name x px] env).map (·.2)=[PySem.assign (.Name x px) env] from rfl];exact Ibz (p:=px) hx (av:=.lst acc') hp A env g1 s1a v' rm R1 (F.up e1a) rv _ _ fun g2 s2 R2 e2a F2=>hQ _ g2 s2 R2 (e1a.toX.trans e2a) F2 rfl
    | true=>
      rw[exec_Assign_Name_used _ _ _ _ hb];refine Aa (AP (Aa ?_));show wpAny _ A (do let _ <- comprehension (.ListComp elt (⟨t,iter,ifs,0⟩::rest) scope pos) scope env _ (newList []) false (eval iter env) (some (PySem.assign (.Name x px) env))) _ _ s;refine Aa (AB (Q:=fun _ s'=>Q .next s') (qj4 (use:=some (PySem.assign (.Name x px) env)) (Q:=fun _ s'=>Q .next s') hk hi hin hc hs rm R F fun g' s' D L R' e' rv hL0 hLg hns hL1=>?_) (fun _ s' hq=>Ag (Ag hq)) fun _ _ e=>e);have F':=F.up e';refine Ibz (p:=px) hx (av:=.lst acc') hp A env g' s' (.ref D) rm R' F' rv _ _ fun g2 s2 R2 e2a F2=>?_
      have hLx:¬FX C.nm env L:=fun q=>by
        rcases q with rfl | ⟨j,y,hj,hc⟩
        . refine qa5 (F.ns) ?_;intro mh ne_25_1 _;refine qbw ne_25_1 ?_;intro oL es ep hL _;rw[hL0] at hL;cases hL
        . refine qb3 (F.cell j y .cell hj rfl) ?_;intro c ov h5 h6 h7 _;rw[hc] at h5;obtain rfl:=Sj h5;rw[hL0] at h7;cases h7
      refine qdo (id hns) ?_;intro mh oL es ep h5 h6 h7;refine qaj ((e2a.keep L oL h5 hLx (.inr ⟨hLg,Ib1 hL1⟩)).ex) ?_;intro oL' h5' h6' _;rw[h6] at h6';have hLg2:g2 L=.other:=by
        rcases e2a.oth L oL h5 hLg hLx with q | ⟨_,v,q⟩
        . exact q
        . rw[h5'] at q;obtain rfl:=Sj q;cases h6'
      have hns2:s2.heap.Ns L mh:=⟨oL',es,ep,h5',h6',h7⟩
      refine ⟨mh,hns2,fun h' hs'=>?_⟩;refine qgj (qgu R R2 hL0 hLg2 hL1 ⟨mh,hns2⟩ hs') ?_;intro R3 e3a hX;have hxc:∀(c:Addr) (v:Option Value),c=L->s2.heap.get? c≠some (qay v):=fun c v q r=>by
        subst q;rw[h5'] at r;obtain rfl:=Sj r;cases h6'
      have hxL:¬env.locals=L:=fun q=>hLx (.inl q.symm)
      have F3:=F2.turn3 hX (fun b q=>q ▸ hLg2) hxL hxc e3a;refine hQ _ g2 _ R3 ?_ F3 rfl;exact (((e'.toX (X:=fun a=>FX C.nm env a\/a=L)).trans (e2a.inX fun _ q=>.inl q)).trans (e3a.inX fun _ q=>.inr q).toY).weak R.low (fun b o ho q=>by
        rcases q with q | q
        . exact q
        . subst q;rw[hL0] at ho;cases ho) fun _ q=>q
  exact hsw _ rfl
end
end
section
theorem qcg (turn:wpAny (model prog w) A (isTrue test env (eval test env)) (fun b s2=>
        if b then wpAny (model prog w) A (execs body env) (fun f s3=>match f with
            | .next | .cont=>Cf (model prog w) A (.whileLoop test body orelse env) R s3
            | .brk=>R (.ok .next) s3
            | .ret v=>R (.ok (.ret v)) s3) (DH (model prog w) A env fun e s'=>R (.error e) s') s2
        else wpAny (model prog w) A (execs orelse env) (fun f s3=>R (.ok f) s3) (DH (model prog w) A env fun e s'=>R (.error e) s') s2)
        (DH (model prog w) A env fun e s'=>R (.error e) s') s):Cf (model prog w) A (.whileLoop test body orelse env) R s:=by
  refine Dy ?_;show wpAny _ A ((whileTurn test body orelse env).onRaise (fun x=>do GL x env;Gn x)) _ _ s;refine wpAny_noted ?_;simp only[whileTurn];refine Aa (AB turn (fun b s2 h2a=>?_) fun _ _ h'=>h');cases b with
  | false=>
    simp only[AY,if_false] at h2a ⊢;exact Aa (AB h2a (fun f s3 h3=>Ag h3) fun _ _ h'=>h')
  | true=>
    simp only[if_true] at h2a ⊢;refine Aa (AB h2a (fun f s3 h3=>?_) fun _ _ h'=>h');cases f with
    | next=>exact Ag ⟨rfl,h3⟩
    | cont=>exact Ag ⟨rfl,h3⟩
    | brk=>exact Ag h3
    | ret v=>exact Ag h3
def WhileC (C:Cx) (k:Nat) (fr:List Env) (test:Expr) (body orelse:List Stmt) (m:List (Option AV)) (σ:List AObj) (fl:AFl) (m':List (Option AV)) (z':List AObj):Prop:=
  ∀(A:BF) (env:Env) (g:Addr->Own) (s:Al),Room k fr A->Rep C.W fr g σ s->Fra C env m g s.heap->∀(R:GZ->Al->Prop),
    (∀f' g' s',Rep C.W fr g' z' s'->Evo C.W (FX C.nm env) C.Y g s.heap g' s'.heap->Fra C env m' g' s'.heap->RFl C.W g' s'.heap fl f'->R (.ok f') s')->Cf (model C.W.prog C.W.w) A (.whileLoop test body orelse env) R s
section
theorem Ibq (ht:Tr C k fr m σ test false z1)(ho:Exs C k fr m z1 orelse fl m' z'):WhileC C k fr test body orelse m σ fl m' z':=fun A env g s rm R F Rr hR=>by
  refine qcg (ht A env g s rm R F _ _ fun g1 s1a R1 e1a=>?_);rw[if_neg (by simp)];exact ho A env g1 s1a rm R1 (F.up e1a) _ _ fun f' g2 s2 R2 e2a F2 hf=>hR f' g2 s2 R2 (e1a.toX.trans e2a) F2 hf
theorem WhileC.next (ht:Tr C k fr m σ test true z1)(hb:Exs C k fr m z1 body .next m1 z2)(hr:WhileC C k fr test body orelse m1 z2 fl m' z'):WhileC C k fr test body orelse m σ fl m' z':=fun A env g s rm R F Rr hR=>by
  refine qcg (ht A env g s rm R F _ _ fun g1 s1a R1 e1a=>?_);rw[if_pos rfl];refine hb A env g1 s1a rm R1 (F.up e1a) _ _ fun f' g2 s2 R2 e2a F2 hf=>?_
  obtain rfl:f'=.next:=hf;exact hr A env g2 s2 rm R2 F2 Rr fun f' g3 s3 R3 e3a F3 hf=>hR f' g3 s3 R3 ((e1a.toX.trans e2a).trans e3a) F3 hf
theorem Iau (h:WhileC C k fr test body orelse m σ fl m' z'):Ex C k fr m σ (.While test body orelse p) fl m' z':=fun A env g s rm R F Q E hQ=>
  wpAny_While (h A env g s rm R F _ fun f' g' s' R' e' F' hf=>hQ f' g' s' R' e' F' hf)
theorem qcm (hi:C.nm[i]?=some (x,kd))(hk:kd=.local\/kd=.cell)(hp:plain av=true){v:Value}(R:Rep C.W fr g σ s)(F:Fra C env m g s.heap)(r:RV C.W g s.heap av v){Q:Unit->Al->Prop}(hQ:∀g' s',Rep C.W fr g' σ s'->Evo C.W (FX C.nm env) noY g s.heap g' s'.heap->Fra C env (m.set i (some av)) g' s'.heap->Q () s'):wpAny (model C.W.prog C.W.w) A (E8 env x v) Q E s:=by
  rcases hk with rfl | rfl
  . exact qbt hi (.inl hp) R F r hQ
  . exact qeo hi hp R F r hQ
theorem As.name (hi:C.nm[i]?=some (x,kd))(hp:plain av=true)(hk:autoParam (kd=.local\/kd=.cell) ap1._auto_1):As C k fr m σ (.Name x p) av (m.set i (some av)) σ:=fun A env g s v rm R F r Q E hQ=>by
  show wpAny _ A (Dd p >>= fun _=>EO env x v) Q E s;exact Aa (AP (Cy (qcm hi hk hp R F r fun g1 s1a R1 e1a F1=>hQ g1 s1a R1 e1a.toY F1)))
def AsL (C:Cx) (k:Nat) (fr:List Env) (m:List (Option AV)) (σ:List AObj) (ts:List Expr) (vs:List AV) (m':List (Option AV)) (z':List AObj):Prop:=
  ∀(A:BF) (env:Env) (g:Addr->Own) (s:Al) (us:List Value),Room k fr A->Rep C.W fr g σ s->Fra C env m g s.heap->RVs C.W g s.heap vs us->∀(Q:Unit->Al->Prop) (E:Value->Al->Prop),
    (∀g' s',Rep C.W fr g' z' s'->Evo C.W (FX C.nm env) C.Y g s.heap g' s'.heap->Fra C env m' g' s'.heap->Q () s')->wpAny (model C.W.prog C.W.w) A (assignInOrder ((CR ts env).map (·.2)) us) Q E s
theorem AsL.nil:AsL C k fr m σ [] [] m σ:=fun A env g s us rm R F r Q E hQ=>Ag (hQ g s R Evo.refl F)
theorem AsL.cons {ts:List Expr}(h1:As C k fr m σ t v m1 z1)(h2:AsL C k fr m1 z1 ts vs m' z')(hp:autoParam (plains vs=true) ap0._auto_1)(he:autoParam (∀env,CR (t::ts) env=(false,PySem.assign t env)::CR ts env) ap0._auto_1):
    AsL C k fr m σ (t::ts) (v::vs) m' z':=fun A env g s us rm R F r Q E hQ=>by
  refine qa1 (r) ?_;intro u q eq_0_2 r1 r2;subst eq_0_2;rw[he];show wpAny _ A (do DQ q (PySem.assign t env u);assignInOrder ((CR ts env).map (·.2)) q) Q E s;refine Aa (AK (h1 A env g s u rm R F r1 _ _ fun g1 s1a R1 e1a F1=>?_));exact h2 A env g1 s1a q rm R1 F1 (r2.mono e1a F.xok vs (.inr hp) _) Q E fun g2 s2 R2 e2a F2=>hQ g2 s2 R2 (e1a.trans e2a) F2
theorem qg9 (R:Rep W fr g σ s)(hs:Heap.ExtBut s.heap.objs.size s.heap h'):Rep W fr g σ { s with heap:=h' }/\Evo W noX noY g s.heap g h':=
  R.keepsAll fun a o ho=>hs a o (qgr ho) ho
theorem As.tuple {ts:List Expr}(h:AsL C k fr m σ ts vs m' z')(hl:autoParam (∀env,(CR ts env).length=vs.length) ap0._auto_1)(hstar:autoParam (∀env,(CR ts env).findIdx? (·.1)=none) ap0._auto_1):
    As C k fr m σ (.Tuple ts n p) (.tup vs) m' z':=fun A env g s v rm R F r Q E hQ=>by
  refine qa2 (r) ?_;intro a us n' eq_1_3 hg ho hr;subst eq_1_3;refine wpAny_assign_Tuple rm.handled ⟨_,ho,rfl,n',rfl⟩ (by rw[hl,<- hr.length,AC]) (hstar env) fun h' hs=>?_
  refine AD ?_ (qg9 R hs);intro R1 e1a;exact h A env g _ _ rm R1 (F.up e1a) (hr.up e1a) Q E fun g2 s2 R2 e2a F2=>hQ g2 s2 R2 (e1a.no.toX.trans e2a) F2
theorem qi2 {names ids:List Str}{P:Prop}{U:Sem (Option (List Str))}{b1 b2 b3 b4:Bool}(h2:b2=false)(hc:b3=true\/b4=false)(hn:names.length=ids.length->names=ids/\P){r:Sem (Option (List Str))}(hr:r=(if b1=true then pure none else if b2=true then pure none else if (names.length != ids.length||names.eraseDups.length != names.length)=true then pure none else if b3=true then pure none else if b4=true then U else pure (some names))):r=pure none\/(r=pure (some ids)/\P):=by
  subst hr h2;cases b1
  . by_cases h:(names.length != ids.length||names.eraseDups.length != names.length)=true
    . exact .inl (if_pos h)
    . have hl:names.length=ids.length:=by
        rcases Nat.decEq names.length ids.length with q | q
        . exact absurd (Bool.or_eq_true_iff.mpr (.inl (bne_iff_ne.mpr q))) h
        . exact q
      cases b3
      . obtain rfl:=hc.resolve_left Bg;exact .inr ⟨(if_neg h).trans (congrArg (fun x=>pure (some x)) (hn hl).1),(hn hl).2⟩
      . exact .inl (if_neg h)
  . exact .inl rfl
theorem qo2 {c:Str×Pos->Bool}:∀l:List (Str×Pos),(l.filterMap fun q=>if c q=true then some q.1 else none).length<=l.length/\((l.filterMap fun q=>if c q=true then some q.1 else none).length=l.length->(l.filterMap fun q=>if c q=true then some q.1 else none)=l.map (·.1)/\∀q∈l,c q=true)
  | []=>⟨Ak _,fun _=>⟨rfl,fun _ h=>absurd h CJ⟩⟩
  | a::l=>by
    have ih:=qo2 (c:=c) l;rw[EZ];cases h:c a with
    | false=>
      rw[if_neg Bg];exact ⟨C4 ih.1,fun q=>absurd (C2 ih.1) (Be.mpr (BE q.symm))⟩
    | true=>
      rw[if_pos rfl];refine ⟨CL ih.1,fun q=>?_⟩;refine AD ?_ (ih.2 (Nat.succ.inj q));intro h1 h2;exact ⟨congrArg (a.1 :: ·) h1,List.forall_mem_cons.mpr ⟨h,h2⟩⟩
theorem kl {b:Bool}(h:(env.kindOf x==some .local&&b)=true):env.kindOf x=some .local:=by simp at h;exact h.1
theorem quq {y:Str}{p':Pos}{e2:Expr}(hst:([e1,e2].any fun | .Starred ..=>true | _=>false)=false)(hc:([e1,e2].all (FL 8)=true)\/[e1,e2].all (Fm 8)=false):
    DB [.Tuple [.Name x px,.Name y py] n p] (.Tuple [e1,e2] n' p') env=pure none \/
      (DB [.Tuple [.Name x px,.Name y py] n p] (.Tuple [e1,e2] n' p') env=pure (some [x,y])/\env.kindOf x=some .local/\env.kindOf y=some .local):=by
  have hf:=qo2 (c:=fun q=>env.kindOf q.1==some .local&&q.2.line==px.line) [(x,px),(y,py)];exact qi2 hst hc (fun h=>(hf.2 h).imp_right fun q=>⟨kl (q _ (.head _)),kl (q _ (.tail _ (.head _)))⟩) rfl
theorem qup {y z:Str}{pz p':Pos}{e2 e3:Expr}(hst:([e1,e2,e3].any fun | .Starred ..=>true | _=>false)=false)(hc:([e1,e2,e3].all (FL 8)=true)\/[e1,e2,e3].all (Fm 8)=false):
    DB [.Tuple [.Name x px,.Name y py,.Name z pz] n p] (.Tuple [e1,e2,e3] n' p') env=pure none \/
      (DB [.Tuple [.Name x px,.Name y py,.Name z pz] n p] (.Tuple [e1,e2,e3] n' p') env=pure (some [x,y,z])/\env.kindOf x=some .local/\env.kindOf y=some .local/\env.kindOf z=some .local):=by
  have hf:=qo2 (c:=fun q=>env.kindOf q.1==some .local&&q.2.line==px.line) [(x,px),(y,py),(z,pz)];exact qi2 hst hc (fun h=>(hf.2 h).imp_right fun q=>⟨kl (q _ (.head _)),kl (q _ (.tail _ (.head _))),kl (q _ (.tail _ (.tail _ (.head _))))⟩) rfl
theorem qd9 {ts:List Expr}{tp:Pos}{value:Expr}{names:List Str}{Q:Flow->Al->Prop}(h:wpAny (model C.W.prog C.W.w) A (eval value env) (fun v s1a=>wpAny (model C.W.prog C.W.w) A (unpackItems v names.length none) (fun items s2=>
      wpAny (model C.W.prog C.W.w) A (assignInOrder (names.reverse.map fun n=>EO env n) items.reverse) (fun _=>Q .next) E s2) E s1a) E s)(hw:DB [.Tuple ts n tp] value env=pure (some names))(hs:FJ [.Tuple ts n tp] value p.line env=pure false):
    wpAny (model C.W.prog C.W.w) A (exec (.Assign [.Tuple ts n tp] value p) env) Q E s:=Assign_Tuple_swapped h hs hw
theorem Ic8 {y:Str}{pt pd:Pos}{e2:Expr}{kx ky:Ax}{a b:AV}(he:Ev C k fr m σ (.Tuple [e1,e2] n' pd) (.tup [a,b]) z')(hx:C.nm[i]?=some (x,kx))(hy:C.nm[j]?=some (y,ky))(hij:i≠j)(hpa:plain a=true)(hpb:plain b=true)(hkx:autoParam (kx=.local\/kx=.cell) ap1._auto_1)(hky:autoParam (ky=.local\/ky=.cell) ap1._auto_1)(hst:autoParam (([e1,e2].any fun | .Starred ..=>true | _=>false)=false) ap0._auto_1)(hc:autoParam (([e1,e2].all (FL 8) || ![e1,e2].all (Fm 8))=true) ap0._auto_1):
    Ex C k fr m σ (.Assign [.Tuple [.Name x px,.Name y py] n pt] (.Tuple [e1,e2] n' pd) p) .next ((m.set i (some a)).set j (some b)) z':=fun A env g s rm R F Q E hQ=>by
  rcases quq (px:=px) (py:=py) (p:=pt) (p':=pd) (n:=n) (n':=n') (x:=x) (y:=y) (env:=env) hst (orB hc) with hw | ⟨hw,hlx,hly⟩
  . refine CE (he A env g s rm R F _ _ fun v' g1 s1a R1 e1a rv=>?_) rfl hw;show wpAny _ A (GJ v' [PySem.assign (.Tuple [.Name x px,.Name y py] n pt) env]) _ _ _;exact As.tuple (AsL.cons (As.name hx hpa hkx) (AsL.cons (As.name hy hpb hky) AsL.nil) (by show (plain b&&true)=true;rw[hpb];rfl)) (fun _=>rfl) (fun _=>rfl) A env g1 s1a v' rm R1 (F.up e1a) rv _ _ fun g2 s2 R2 e2a F2=>hQ _ g2 s2 R2 (e1a.toX.trans e2a) F2 rfl
  . refine qd9 (names:=[x,y]) (he A env g s rm R F _ _ fun v' g1 s1a R1 e1a rv=>?_) hw rfl;refine qa2 (rv) ?_;intro t us n'' eq_3_3 hg ho hr;subst eq_3_3;have hsz:us.size=2:=by rw[<- AC,hr.length];rfl
    rw[show ([x,y]:List Str).length=us.size from hsz.symm];refine wpAny_unpackItems_tuple rm.handled ⟨_,ho,rfl,n'',rfl⟩ fun h' hs=>?_
    refine AD ?_ (qg9 R1 hs);intro R2 e2a;have hr2a:=hr.up e2a;refine qa1 (hr2a) ?_;intro u1 q1 hu1 r1 hr1;refine qa1 (hr1) ?_;intro u2 q2 eq_6_2 r2 hr2;subst eq_6_2;obtain rfl:q2=[]:=hr2;rw[hu1];show wpAny _ A (do DQ [u1] (EO env y u2);DQ [] (EO env x u1);pure ()) _ _ _;have F2:=(F.up e1a).up e2a;refine Aa (AK (Cy (qcm hy hky hpb R2 F2 r2 fun g3 s3 R3 e3a F3=>?_)));refine Aa (AK (Cy (qcm hx hkx hpa R3 F3 (r1.mono e3a F2.xok a (.inr hpa) _) fun g4 s4 R4 e4 F4=>?_)));refine Ag (hQ _ g4 s4 R4 (((e1a.trans e2a.no).toX.trans e3a.toY).trans e4.toY) ?_ rfl);rw[EL _ _ hij];exact F4
theorem Id1 {y z:Str}{pz pt pd:Pos}{e2 e3:Expr}{l:Nat}{kx ky kz:Ax}{a b c:AV}(he:Ev C k fr m σ (.Tuple [e1,e2,e3] n' pd) (.tup [a,b,c]) z')(hx:C.nm[i]?=some (x,kx))(hy:C.nm[j]?=some (y,ky))(hz:C.nm[l]?=some (z,kz))(hij:i≠j)(hil:i≠l)(hjl:j≠l)(hpa:plain a=true)(hpb:plain b=true)(hpc:plain c=true)(hkx:autoParam (kx=.local\/kx=.cell) ap1._auto_1)(hky:autoParam (ky=.local\/ky=.cell) ap1._auto_1)(hkz:autoParam (kz=.local\/kz=.cell) ap1._auto_1)(hst:autoParam (([e1,e2,e3].any fun | .Starred ..=>true | _=>false)=false) ap0._auto_1)(hc:autoParam (([e1,e2,e3].all (FL 8) || ![e1,e2,e3].all (Fm 8))=true) ap0._auto_1):
    Ex C k fr m σ (.Assign [.Tuple [.Name x px,.Name y py,.Name z pz] n pt] (.Tuple [e1,e2,e3] n' pd) p) .next (((m.set i (some a)).set j (some b)).set l (some c)) z':=fun A env g s rm R F Q E hQ=>by
  rcases qup (px:=px) (py:=py) (pz:=pz) (p:=pt) (p':=pd) (n:=n) (n':=n') (x:=x) (y:=y) (z:=z) (env:=env) hst (orB hc) with hw | ⟨hw,hlx,hly,hlz⟩
  . refine CE (he A env g s rm R F _ _ fun v' g1 s1a R1 e1a rv=>?_) rfl hw;show wpAny _ A (GJ v' [PySem.assign (.Tuple [.Name x px,.Name y py,.Name z pz] n pt) env]) _ _ _;exact As.tuple (AsL.cons (As.name hx hpa hkx) (AsL.cons (As.name hy hpb hky) (AsL.cons (As.name hz hpc hkz) AsL.nil) (by show (plain c&&true)=true;rw[hpc];rfl)) (by show (plain b&&(plain c&&true))=true;rw[hpb,hpc];rfl)) (fun _=>rfl) (fun _=>rfl) A env g1 s1a v' rm R1 (F.up e1a) rv _ _
      fun g2 s2 R2 e2a F2=>hQ _ g2 s2 R2 (e1a.toX.trans e2a) F2 rfl
  . refine qd9 (names:=[x,y,z]) (he A env g s rm R F _ _ fun v' g1 s1a R1 e1a rv=>?_) hw rfl;refine qa2 (rv) ?_;intro t us n'' eq_7_3 hg ho hr;subst eq_7_3;have hsz:us.size=3:=by rw[<- AC,hr.length];rfl
    rw[show ([x,y,z]:List Str).length=us.size from hsz.symm];refine wpAny_unpackItems_tuple rm.handled ⟨_,ho,rfl,n'',rfl⟩ fun h' hs=>?_
    refine AD ?_ (qg9 R1 hs);intro R2 e2a;have hr2a:=hr.up e2a;refine qa1 (hr2a) ?_;intro u1 q1 hu1 r1 hr1;refine qa1 (hr1) ?_;intro u2 q2 eq_10_2 r2 hr2;subst eq_10_2;refine qa1 (hr2) ?_;intro u3 q3 eq_11_2 r3 hr3;subst eq_11_2;obtain rfl:q3=[]:=hr3;rw[hu1];show wpAny _ A (do DQ [u2,u1] (EO env z u3);DQ [u1] (EO env y u2);DQ [] (EO env x u1);pure ()) _ _ _;have F2:=(F.up e1a).up e2a;refine Aa (AK (Cy (qcm hz hkz hpc R2 F2 r3 fun g3 s3 R3 e3a F3=>?_)));refine Aa (AK (Cy (qcm hy hky hpb R3 F3 (r2.mono e3a F2.xok b (.inr hpb) _) fun g4 s4 R4 e4 F4=>?_)));refine Aa (AK (Cy (qcm hx hkx hpa R4 F4 ((r1.mono e3a F2.xok a (.inr hpa) _).mono e4 F3.xok a (.inr hpa) _) fun g5 s5 R5 e5 F5=>?_)));refine Ag (hQ _ g5 s5 R5 ((((e1a.trans e2a.no).toX.trans e3a.toY).trans e4.toY).trans e5.toY) ?_ rfl);rw[EL (some c) (some b) (BH hjl),EL (some c) (some a) (BH hil),EL (some b) (some a) (BH hij)] at F5;exact F5
end
end
section
theorem fn_slot_ga:Slot "function" "__getattribute__" "object.__getattribute__":=
  .of (owner := "object") (n := "__getattribute__") (by rw[CC,BM];kernel_rfl) (by decide +kernel) (by decide +kernel) (by decide +kernel)
    (by first | exact .inl (by decide +kernel) | exact .inr (by decide +kernel)) (by rw[BU];kernel_rfl)
theorem fn_slot_sa:Slot "function" "__setattr__" "object.__setattr__":=
  .of (owner := "object") (n := "__setattr__") (by rw[CC,BM];kernel_rfl) (by decide +kernel) (by decide +kernel) (by decide +kernel)
    (by first | exact .inl (by decide +kernel) | exact .inr (by decide +kernel)) (by rw[BU];kernel_rfl)
theorem qjx:AW (.type "function") "__getattr__"=pure none:=by rw[CC,BM];kernel_rfl
theorem qqn:mroOf (.type "function")=pure [.type "function",.type "object"]:=by rw[mroOf_type];kernel_rfl
theorem qec:E9 (.type "function") (.type "module")=pure false:=by rw[BU];kernel_rfl
theorem qdg:E9 (.type "list") (.type "module")=pure false:=by rw[BU];kernel_rfl
theorem qgd:E9 (.type "dict") (.type "module")=pure false:=by rw[BU];kernel_rfl
theorem qgt:AW (.type "list") "tag"=pure none:=by rw[CC,BM];kernel_rfl
theorem qgy:AW (.type "dict") "tag"=pure none:=by rw[CC,BM];kernel_rfl
section
theorem qiw {g:Array Fo}{d:Drawn}{t:Nat}{x dx:Addr}{fd:BS}{mh:Str->Option Value}{name:Str}{v:Value}{fill expr:Bool}(hx:h.get? x=some { cls:=.type "function",dict:=some dx,data:=.func fd })(hn:h.Ns dx mh)(hl:AW (.type "function") name=pure none)(hv:mh name=some v)(hh:handedOut v=pure v)(hq:Q v ⟨h,g,d,t,os⟩):wpAny (model prog w) A (DR (.ref x) (.str name tk) fill expr) Q E ⟨h,g,d,t,os⟩:=by
  have hT:∀tk',(⟨h,g,d,tk',os⟩:Al).TypeIs (.ref x) "function":=fun _=>⟨_,hx,rfl⟩
  have f3:=fn_slot_ga.lookup;have f4:=fn_slot_ga.bind (.ref x);have f5:=qjx;unfold DR;repeat (any_goals (first | assumption | exact hT _ | wp_step))
  rw[if_neg (by cases expr <;> simp[onTheHeap])];repeat (any_goals (first | assumption | exact hT _ | ((with_reducible show wpAny _ _ (call (Value.builtin "object.__getattribute__") _ _) _ _ _);refine FT fn_slot_ga (hT _) PySem.F.entry_object_getattribute ?_ (PySem.F.args_object_getattribute_2 _ _)) | (with_reducible refine Gz hn ?_;rw[hv]) | wp_step))
  refine ⟨v,rfl,?_⟩;show wpAny _ _ (handedOut v) Q E _;rw[hh];exact Ag hq
theorem qrv {x dx:Addr}{fd:BS}{mh:Str->Option Value}{name:Str}{v:Value}{expr:Bool}(hx:s.heap.get? x=some { cls:=.type "function",dict:=some dx,data:=.func fd })(hn:s.heap.Ns dx mh)(hl:AW (.type "function") name=pure none)(hv:mh name=some v)(hh:handedOut v=pure v)(hq:Q v { s with toks:=s.toks+1 }):wpAny (model prog w) A (GW (.ref x) name expr) Q E s:=by
  obtain ⟨h,g,d,t,os⟩:=s;unfold GW;refine Aa ?_;repeat (any_goals (first | (with_reducible exact qiw hx hn hl hv hh hq) | wp_step))
set_option maxHeartbeats 1000000 in
theorem qo1 {g:Array Fo}{d:Drawn}{t:Nat}{x dx:Addr}{fd:BS}{mh:Str->Option Value}{name:Str}(hA:A.handled=none)(hx:h.get? x=some { cls:=.type "function",dict:=some dx,data:=.func fd })(hn:h.Ns dx mh)(hl:AW (.type "function") name=pure none)(hv:mh name=none)(hname:(["__module__", "__name__", "__qualname__", "__doc__", "__annotations__"]:List Str).contains name=false)(hq:∀h' tk e,FM h h' e "AttributeError"->E (.ref e) ⟨h',g,d,tk,os⟩)(hsz:name.length+100<=Ai):wpAny (model prog w) A (DR (.ref x) (.str name tk) false false) Q E ⟨h,g,d,t,os⟩:=by
  have hT:∀tk',(⟨h,g,d,tk',os⟩:Al).TypeIs (.ref x) "function":=fun _=>⟨_,hx,rfl⟩
  have f1:=Ed;have f3:=fn_slot_ga.lookup;have f4:=fn_slot_ga.bind (.ref x);have f5:=qjx;unfold DR;repeat (any_goals (first | assumption | exact hT _ | wp_step))
  refine Cz fn_slot_ga.plain PySem.F.entry_object_getattribute (fn_slot_ga.check _ _ _ _ _ _ _ _ (hT _) (PySem.F.args_object_getattribute_2 _ _) ?_);show wpAny (model prog w) A.in1 (AA.«object.__getattribute__» ⟨[.ref x,.str name tk],[]⟩) _ _ _;unfold AA.«object.__getattribute__»;repeat (any_goals (first | assumption | exact hT _ | (with_reducible refine Gz hn ?_;rw[hv]) | wp_step))
  simp only[hname,AY,if_false];repeat (any_goals (first | assumption | exact hT _ | wp_step))
  refine wpAny_raiseAttrError hA (fun h' tk' e hx'=>?_) (PySem.attrMsg_fits (by decide +kernel) hsz);refine qjj (hx'.there) ?_;intro t' u' he;show wpAny _ _ (CS _ _ _ _ _ _ _) _ _ _;unfold CS;repeat (any_goals (first | assumption | wp_step))
  exact hq _ _ _ hx'.of
end
end
section
section
theorem qez {T:String}{name:Str}{id:String}{B:AA}{self:Value}{rest:List Value}{S:PySem.Spec}(slot:Slot T name id)(hT:s.TypeIs self T)(entry:GA table id=some B)(args:Ga id ⟨self::rest,[]⟩)(g:Meets (B ⟨self::rest,[]⟩) S)(h:S A R s):Cf (model prog w) A (.call (.builtin id) ⟨self::rest,[]⟩) R s:=
  Cz slot.plain entry (slot.check _ _ _ _ _ _ _ _ hT args (g prog w A R s h))
set_option maxHeartbeats 1000000 in
theorem qjp {g:Array Fo}{d:Drawn}{t:Nat}{xs:Array Value}{name:Str}(hA:A.handled=none)(hx:h.get? a=some (qaa xs k))(hmiss:AW (.type "list") name=pure none)(hname:(["__module__", "__name__", "__qualname__", "__doc__", "__annotations__"]:List Str).contains name=false)(hq:∀h' tk e,FM h h' e "AttributeError"->E (.ref e) ⟨h',g,d,tk,os⟩)(hsz:name.length+100<=Ai):wpAny (model prog w) A (DR (.ref a) (.str name tk) false false) Q E ⟨h,g,d,t,os⟩:=by
  have hT:∀tk',(⟨h,g,d,tk',os⟩:Al).TypeIs (.ref a) "list":=fun _=>⟨_,hx,rfl⟩
  have f1:=Ed;have f3:=PySem.F.slot_list_getattribute.lookup;have f4:=PySem.F.slot_list_getattribute.bind (.ref a);have f5:=am_list_getattr_none;unfold DR;repeat (any_goals (first | assumption | exact hT _ | wp_step))
  refine qez PySem.F.slot_list_getattribute (hT _) Fp (PySem.F.args_list_getattribute_2 _ _) (meets_getattribute_miss_list a xs k #[] name tk hmiss hname hsz) ⟨hx,hA,fun h' tk' e hx'=>?_⟩;refine qjj (hx'.there) ?_;intro t' u' he;show wpAny _ _ (CS _ _ _ _ _ _ _) _ _ _;unfold CS;repeat (any_goals (first | assumption | wp_step))
  exact hq _ _ _ hx'.of
set_option maxHeartbeats 1000000 in
theorem qk4 {g:Array Fo}{d:Drawn}{t:Nat}{es:Array CY}{sl:Array (Option Value)}{name:Str}(hA:A.handled=none)(hx:h.get? a=some { cls:=.type "dict",dict:=none,data:=.dict es k,slots:=sl })(hmiss:AW (.type "dict") name=pure none)(hname:(["__module__", "__name__", "__qualname__", "__doc__", "__annotations__"]:List Str).contains name=false)(hq:∀h' tk e,FM h h' e "AttributeError"->E (.ref e) ⟨h',g,d,tk,os⟩)(hsz:name.length+100<=Ai):wpAny (model prog w) A (DR (.ref a) (.str name tk) false false) Q E ⟨h,g,d,t,os⟩:=by
  have hT:∀tk',(⟨h,g,d,tk',os⟩:Al).TypeIs (.ref a) "dict":=fun _=>⟨_,hx,rfl⟩
  have f1:=Ed;have f3:=PySem.F.slot_dict_getattribute.lookup;have f4:=PySem.F.slot_dict_getattribute.bind (.ref a);have f5:=am_dict_getattr_none;unfold DR;repeat (any_goals (first | assumption | exact hT _ | wp_step))
  refine qez PySem.F.slot_dict_getattribute (hT _) am_entry_dict_getattribute (PySem.F.args_dict_getattribute_2 _ _) (meets_getattribute_miss_dict a es k sl name tk hmiss hname hsz) ⟨hx,hA,fun h' tk' e hx'=>?_⟩;refine qjj (hx'.there) ?_;intro t' u' he;show wpAny _ _ (CS _ _ _ _ _ _ _) _ _ _;unfold CS;repeat (any_goals (first | assumption | wp_step))
  exact hq _ _ _ hx'.of
theorem qij:builtinKind "hasattr"=none:=by decide +kernel
theorem qh9:plainId "hasattr"=true:=by decide +kernel
theorem qhn:GA table "hasattr"=some AA.«hasattr»:=FU (by kernel_rfl)
theorem qj7 (a b:Value):Ga "hasattr" ⟨[a,b],[]⟩:=by unfold Ga;kernel_rfl
set_option maxHeartbeats 1000000 in
theorem qcd {g:Array Fo}{d:Drawn}{t:Nat}{x:Addr}{T:String}{name:Str}(hx:h.get? x=some o)(hT:o.cls=.type T)(hm:E9 (.type T) (.type "module")=pure false)(hl:AW (.type T) name=pure none)(hq:wpAny (model prog w) A.in1 (DR (.ref x) (.str name tk) false false) (fun v s'=>Q (.bool true) s') (fun e s'=>∃a,e=.ref a/\(∃o,s'.heap.get? a=some o/\o.cls=.type "AttributeError")/\Q (.bool false) s') ⟨h,g,d,t,os⟩):
    wpAny (model prog w) A (call (.builtin "hasattr") [.ref x,.str name tk]) Q E ⟨h,g,d,t,os⟩:=by
  obtain ⟨c,dct,dat,sl⟩:=o;simp only at hT;subst hT;have hTI:∀tk',(⟨h,g,d,tk',os⟩:Al).TypeIs (.ref x) T:=fun _=>⟨_,hx,rfl⟩
  have f1:=Ed;refine PySem.Calls.call_function_entry qij qh9 qhn (qj7 _ _) ?_;unfold AA.«hasattr»;repeat (any_goals (first | assumption | exact hTI _ | ((with_reducible show wpAny _ _ (DR _ _ _ _) _ _ _);refine AB hq (fun v s' hv=>?_) (fun e s' he=>?_)) | (obtain ⟨a,rfl,hTe,hQ⟩:=he;have hTe':s'.TypeIs (.ref a) "AttributeError":=hTe;clear hTe) | wp_step))
  . exact ⟨_,rfl,hv⟩
  . exact ⟨_,rfl,hQ⟩
end
end
section
open PySem.Builtin PySem.Builtin.ObjectAttr
section
theorem qiv (self:Value):refuseLoop self "__setattr__" [.type "function",.type "object"]=pure ():=by
  kernel_rfl
theorem qot (a b c:Value):Ga "object.__setattr__" ⟨[a,b,c],[]⟩:=PySem.F.store_object.args a b c
set_option maxHeartbeats 1000000 in
theorem qhk {g:Array Fo}{d:Drawn}{t:Nat}{x:Addr}{fd:BS}{name:Str}{v:Value}{Q:Unit->Al->Prop}(hx:h.get? x=some { cls:=.type "function",data:=.func fd })(hl:AW (.type "function") name=pure none)(hq:∀h' tk',h'.get? x=some { cls:=.type "function",dict:=some h.objs.size,data:=.func fd }->h'.Ns1 h.objs.size (fun y=>if y=name then some v else none) ->
      (∀b o,b≠x->h.get? b=some o->h'.get? b=some o)->Q () ⟨h',g,d,tk',os⟩):wpAny (model prog w) A (GX (.ref x) name v) Q E ⟨h,g,d,t,os⟩:=by
  have hT:∀tk',(⟨h,g,d,tk',os⟩:Al).TypeIs (.ref x) "function":=fun _=>⟨_,hx,rfl⟩
  have f2:=fn_slot_sa.lookup;have f3:=fn_slot_sa.bind (.ref x);have hm:=qqn;have hpass:=qiv (.ref x);unfold GX callSpecial? specialOf;repeat (any_goals (first | assumption | exact hT _ | wp_step))
  refine Cz fn_slot_sa.plain PySem.F.store_object.entry (fn_slot_sa.check _ _ _ _ _ _ _ _ (hT _) (qot _ _ _) ?_);show wpAny (model prog w) A.in1 (AA.«object.__setattr__» ⟨[.ref x,.str name t,v],[]⟩) _ _ _;unfold AA.«object.__setattr__»;repeat (any_goals ((fail_if_success (with_reducible show wpAny _ _ (storeInDict _ _ _ _) _ _ _));(first | assumption | exact hT _ | rw[refuse_eq] | rw[hpass] | wp_step)))
  have hxs:x≠h.objs.size:=B9 (F8 hx);have hx1:(h.push { cls:=.type "dict",data:=.dict #[] }).get? x=some { cls:=.type "function",data:=.func fd }:=Au _ hx;show wpAny _ _ (storeInDict h.objs.size (.str name t) name v) _ _ _;unfold storeInDict newKeyGuard;have hgd:((h.push { cls:=.type "dict",data:=.dict #[] }).update x fun o=>{ cls:=o.cls,dict:=some h.objs.size,data:=o.data,slots:=o.slots }).get? h.objs.size
      = some { cls:=.type "dict",data:=.dict #[] }:=
    (DS _ _ _ _ hxs.symm).trans (Heap.get?_push_at rfl rfl)
  have hnd:((h.push { cls:=.type "dict",data:=.dict #[] }).update x fun o=>{ cls:=o.cls,dict:=some h.objs.size,data:=o.data,slots:=o.slots }).Ns h.objs.size (fun _=>none):=
    ⟨_,#[],_,hgd,rfl,fun e he=>absurd he (by simp),fun _=>rfl⟩
  refine Aa (Ag (Aa (wpAny_nsSet1 (Heap.Ns1.of_empty hnd) fun h' hn' hs=>?_)));refine qar (hn'.count (Within.cons name v Within.nil)) ?_;intro oD esD epD hoD hdD hcD;refine Aa (wpAny_lookBehind hoD (by rw[hdD];exact pastItsLine_dict (Af hcD (by rw[BY,CW,Ay];simp +arith))) ?_);have hx':h'.get? x=some { cls:=.type "function",dict:=some h.objs.size,data:=.func fd }:=(hs.2 x hxs).trans (Bc _ hx1 rfl);repeat (any_goals (first | assumption | wp_step))
  exact hq h' _ hx' hn' fun b o hb ho=>(hs.2 b (B9 (F8 ho))).trans ((DS _ _ _ _ hb).trans (Au _ ho))
set_option maxHeartbeats 1000000 in
theorem qhj {g:Array Fo}{d:Drawn}{t:Nat}{x dx:Addr}{fd:BS}{name:Str}{v:Value}{mh:Str->Option Value}{Q:Unit->Al->Prop}(hx:h.get? x=some { cls:=.type "function",dict:=some dx,data:=.func fd })(hn:h.Ns1 dx mh)(hl:AW (.type "function") name=pure none)(hq:∀h' tk',h'.Ns1 dx (fun y=>if y=name then some v else mh y) ->
      (∀b o,b≠dx->h.get? b=some o->h'.get? b=some o)->Q () ⟨h',g,d,tk',os⟩)(hw:Within mh ns)(hsz:ns.length+1<=Ai):wpAny (model prog w) A (GX (.ref x) name v) Q E ⟨h,g,d,t,os⟩:=by
  have hT:∀tk',(⟨h,g,d,tk',os⟩:Al).TypeIs (.ref x) "function":=fun _=>⟨_,hx,rfl⟩
  have f2:=fn_slot_sa.lookup;have f3:=fn_slot_sa.bind (.ref x);have hm:=qqn;have hpass:=qiv (.ref x);unfold GX callSpecial? specialOf;repeat (any_goals (first | assumption | exact hT _ | wp_step))
  refine Cz fn_slot_sa.plain PySem.F.store_object.entry (fn_slot_sa.check _ _ _ _ _ _ _ _ (hT _) (qot _ _ _) ?_);show wpAny (model prog w) A.in1 (AA.«object.__setattr__» ⟨[.ref x,.str name t,v],[]⟩) _ _ _;unfold AA.«object.__setattr__»;repeat (any_goals ((fail_if_success (with_reducible show wpAny _ _ (storeInDict _ _ _ _) _ _ _));(first | assumption | exact hT _ | rw[refuse_eq] | rw[hpass] | wp_step)))
  show wpAny _ _ (storeInDict dx (.str name t) name v) _ _ _;unfold storeInDict newKeyGuard;refine Aa (Ag (Aa (wpAny_nsSet1 hn fun h' hn' hs=>?_)));refine qar (hn'.count (Within.cons name v hw)) ?_;intro oD esD epD hoD hdD hcD;refine Aa (wpAny_lookBehind hoD (by rw[hdD];exact pastItsLine_dict (Af hcD (by rw[BY];lia))) ?_);repeat (any_goals (first | assumption | wp_step))
  exact hq h' _ hn' fun b o hb ho=>(hs.2 b hb).trans ho
end
end
section
noncomputable def qks:AV->Bool
  | .glob (.ref _)=>true
  | .glob _=>false
  | .any=>false
  | _=>true
theorem qn2 {v:Value}(r:RV W g h av v)(ho:qks av=true):handedOut v=pure v:=by
  cases av with
  | none=>obtain rfl:v=.none:=r;rfl
  | bool b=>obtain rfl:v=.bool b:=r;rfl
  | int i=>obtain ⟨t,rfl⟩:=r;rfl
  | str x=>obtain ⟨t,rfl⟩:=r;rfl
  | tup l=>refine qbw (r) ?_;intro a vs n eq_2_3 _;subst eq_2_3;rfl
  | lst l=>refine qbw (r) ?_;intro a vs n eq_3_3 _;subst eq_3_3;rfl
  | loc n=>refine qa5 (r) ?_;intro a eq_4_1 _;subst eq_4_1;rfl
  | glob w=>
    obtain rfl:v=w:=r;cases v <;> first | rfl | (cases (ho:false=true))
  | bound f s=>refine qcr (r) ?_;intro a u eq_5_2 _;subst eq_5_2;rfl
  | clo l ns cs=>refine qbw (r) ?_;intro a fd vs eq_6_3 _;subst eq_6_3;rfl
  | any=>cases (ho:false=true)
theorem qem:∀{attrs:List Str} {vals:List AV} {vs:List Value} {av:AV},RVs W g h vals vs->(attrs.zip vals).lookup x=some av->∃v,(attrs.zip vs).lookup x=some v/\RV W g h av v
  | [],_,_,_,_,hl=>by simp at hl
  | _::_,[],_,_,_,hl=>by simp at hl
  | y::attrs,a::vals,vs,av,r,hl=>by
    refine qa1 (r) ?_;intro v q eq_7_2 r1 r2;subst eq_7_2;rw[A9,AU] at hl ⊢;cases hb:x==y with
    | true=>rw[hb] at hl;obtain rfl:=Sj hl;exact ⟨v,rfl,r1⟩
    | false=>rw[hb] at hl;exact qem r2 hl
section
theorem qgc (R:Rep W fr g σ s)(hn:σ[n]?=some (.elem attrs vals))(ra:RV W g s.heap (.loc n) va):
    ∃a fd d mh vs,va=.ref a/\g a=.loc n/\s.heap.get? a=some { cls:=.type "function",dict:=some d,data:=.func fd }/\g d=.aux n/\s.heap.Ns1 d mh/\RVs W g s.heap vals vs/\(∀x,mh x=(attrs.zip vs).lookup x)/\attrs.length=vs.length:=by
  refine qa5 (ra) ?_;intro a eq_8_1 hg;subst eq_8_1;refine qhc (R.locs n _ hn) ?_;intro a' hg' fd d mh vs h1 h2 h3 h4 h5 h6;have:a'=a:=R.uniq _ _ _ hg' hg;subst this;exact ⟨a',fd,d,mh,vs,rfl,hg,h1,h2,h3,h4,h5,h6⟩
theorem qiz {ex:Bool}(R:Rep W fr g σ s)(hn:σ[n]?=some (.elem attrs vals))(ra:RV W g s.heap (.loc n) va)(hx:(attrs.zip vals).lookup x=some av)(ho:qks av=true)(hl:AW (.type "function") x=pure none)(hQ:∀v s',Rep W fr g σ s'->s'.heap=s.heap->RV W g s'.heap av v->Q v s'):wpAny (model W.prog W.w) A (GW va x ex) Q E s:=by
  refine qbb (qgc R hn ra) ?_;intro a fd d mh vs eq_10_5 hg h1 h2 h3 h4 h5 h6;subst eq_10_5;refine qa5 (qem h4 hx) ?_;intro v hv rv;exact qrv h1 h3.ns hl (by rw[h5];exact hv) (qn2 rv ho) (hQ v _ (R.tok _) rfl rv)
theorem Iab (he:Ev C k fr m σ e (.loc n) z')(hn:z'[n]?=some (.elem attrs vals))(hx:(attrs.zip vals).lookup x=some av)(hl:AW (.type "function") x=pure none)(ho:autoParam (qks av=true) ap0._auto_1)(hb:autoParam (∀env w,attributeBase e x env w=w) ap0._auto_1):Ev C k fr m σ (.Attribute e x p) av z':=fun A env g s rm R F Q E hQ=>by
  rw[arm_eval_Attribute,hb];refine Aa (he A env g s rm R F _ _ fun va g1 s1a R1 e1a ra=>?_);refine Aa (AP (Aa (AK (qiz R1 hn ra hx ho hl fun v s2 R2 h2a rv=>?_))));refine Aa (wpAny_letTemporaryGo (Ag ?_));exact hQ v g1 s2 R2 (by rw[h2a];exact e1a) rv
def MethOk (W:Wd) (fr:List Env) (σ:List AObj) (a:AV) (x:Str) (f:AV) (first:List AV):Prop:=
  ∀(A:BF) (g:Addr->Own) (s:Al) (va:Value) (pl:Sem Bool) (Q:Value×List Value->Al->Prop) (E:Value->Al->Prop),Rep W fr g σ s->RV W g s.heap a va ->
    (∀vf fs s',Rep W fr g σ s'->s'.heap=s.heap->RV W g s'.heap f vf->RVs W g s'.heap first fs->Q (vf,fs) s')->wpAny (model W.prog W.w) A (getMethod va x pl) Q E s
theorem Ial {pl:Env->Sem Bool}{o:Expr}{q:Pos}{a f:AV}{first:List AV}(he:Ev C k fr m σ o a z1)(hm:MethOk C.W fr z1 a x f first)(hf:Kept C.W f)(ha:Evs C k fr m z1 es args z2)(hc:Calls C.W C.Y k fr z2 f (first++args) [] [] v z')(hpl:autoParam (∀env p,(Fg p (C6 es env)).any (·.1)=false) ap0._auto_1)(he':autoParam (∀env,eval (.Call (.Attribute o x q) es [] p) env=(do
      let ov <- eval o env
      Dd q.atName
      let (f,first) <- DQ [ov] (getMethod ov x (pl env))
      callWith p f first (Fg p (C6 es env)) [])) ap0._auto_1):Ev C k fr m σ (.Call (.Attribute o x q) es [] p) v z':=fun A env g s rm R F Q E hQ=>by
  refine MethodCall_ (pl:=pl env) ?_ (he' env);refine he A env g s rm R F _ _ fun va g1 s1a R1 e1a ra=>?_
  refine hm A g1 s1a va (pl env) _ _ R1 ra (fun vf fs s2 R2 h2a rf rs=>?_);have e2a:Evo C.W noX C.Y g s.heap g1 s2.heap:=by rw[h2a];exact e1a
  exact qgf (kws:=[]) (p':=p) hf ha EvK.nil hc hpl rm R2 (F.up e2a) rf rs fun v' g3 s3 R3 e3a r3=>hQ v' g3 s3 R3 (e2a.trans e3a) r3
theorem MethOk.list {a:AV}{id:String}(hL:Lv σ a l)(slot:Slot "list" x id)(hty:typeOf (.builtin id)=pure (.type "method_descriptor"):=by first | rfl | decide +kernel | kernel_rfl):MethOk W fr σ a x (.glob (.builtin id)) [a]:=
  fun A g s va pl Q E R ra hQ=>by
  refine qa2 (hL.at R ra) ?_;intro b vs n eq_12_3 ho hr _;subst eq_12_3;refine FC (qav ho).typeIs PySem.F.plainAttrs_list slot hty (fun a e=>by cases e;exact ⟨_,ho,rfl⟩) ?_;exact hQ _ _ s R rfl rfl ⟨_,[],rfl,ra,rfl⟩
theorem qpq:(Manifest.canonical "object.__getattribute__" != "object.__getattribute__")=false:=by decide +kernel
theorem MethOk.elem (hn:σ[n]?=some (.elem attrs vals))(hx:(attrs.zip vals).lookup x=some av)(hl:AW (.type "function") x=pure none)(ho:autoParam (qks av=true) ap0._auto_1):MethOk W fr σ (.loc n) x av []:=
  fun A g s va pl Q E R ra hQ=>by
  refine qbb (qgc R hn ra) ?_;intro a fd d mh vs eq_13_5 hg h1 h2 h3 h4 h5 h6;subst eq_13_5;have hT:s.TypeIs (.ref a) "function":=⟨_,h1,rfl⟩
  unfold getMethod;refine Aa (Dz hT fn_slot_ga.lookup ?_);show wpAny _ A (if (Manifest.canonical "object.__getattribute__" != "object.__getattribute__")=true then _ else _) Q E s;rw[qpq,if_neg Bg];refine Aa (Dz hT qjx ?_);refine Aa (Dz hT hl ?_);show wpAny _ A (do return (<- GW (.ref a) x,[])) Q E s;exact Aa (qiz R hn ra hx ho hl fun v s2 R2 h2a rv=>Ag (hQ v [] s2 R2 h2a rv rfl))
theorem MethOk.intBits {i:Int}:MethOk W fr σ (.int i) (BP "bit_length") (.glob (.builtin "int.bit_length")) [.int i]:=fun A g s va pl Q E R ra hQ=>by
  obtain ⟨t,rfl⟩:=ra;exact getMethod_int_bit_length (hQ _ _ s R rfl rfl ⟨_,[],rfl,⟨t,rfl⟩,rfl⟩)
end
end
section
section
theorem qgn {α:Type}{vs:List Value}:Within (fun x=>(attrs.zip vs).lookup x) attrs:=by
  intro y hy;have:∀(attrs:List Str) (vs:List Value),(attrs.zip vs).lookup y≠none->y∈attrs:=by
    intro attrs;induction attrs with
    | nil=>intro vs h;simp at h
    | cons z attrs ih=>
      intro vs h;cases vs with
      | nil=>simp at h
      | cons v vs=>
        rw[A9,AU] at h;cases hb:y==z with
        | true=>simp at hb;rw[hb];exact Am
        | false=>rw[hb] at h;exact Az _ (ih vs h)
  exact this attrs vs hy
theorem qml {v:Value}(R:Rep W fr g σ s)(hn:σ[n]?=some .fn0)(ra:RV W g s.heap (.loc n) va)(rv:RV W g s.heap av v)(hp:plain av=true)(hl:AW (.type "function") x=pure none){Q:Unit->Al->Prop}(hQ:∀g' s',Rep W fr g' (σ.set n (.elem [x] [av])) s'->Evo W noX (·=n) g s.heap g' s'.heap->Q () s'):wpAny (model W.prog W.w) A (GX va x v) Q E s:=by
  refine qa5 (ra) ?_;intro a eq_0_1 hg;subst eq_0_1;refine qus (R.locs n _ hn) ?_;intro a' hg' fd h1;have:a'=a:=R.uniq _ _ _ hg' hg;subst this;refine qhk h1 hl fun h' tk' h2 h3 h4=>?_
  have htop:s.heap.get? s.heap.objs.size=none:=qai _;have hne:∀b o,s.heap.get? b=some o->b≠s.heap.objs.size:=fun b o ho q=>by rw[q,htop] at ho;cases ho
  have hk:∀b o,s.heap.get? b=some o->g b≠.loc n->g b≠.aux n->h'.get? b=some o:=fun b o ho q _=>h4 b o (fun q'=>q (by rw[q'];exact hg)) ho
  have e:=Evo.setLoc (g':=qc6 g s.heap.objs.size (.aux n)) R (n:=n) (fun b o ho=>qa9 (hne b o ho)) hk;have hd:∃o,h'.get? s.heap.objs.size=some o:=by refine qbw (h3) ?_;intro o _ _ q _;exact ⟨o,q⟩
  refine hQ _ _ (R.setLoc (ao':=.elem [x] [av]) tk' hn (fun b o ho=>qa9 (hne b o ho)) (fun b hb=>?_) hk (fun b o ho hq=>?_) (by show (plain av&&true)=true;rw[hp];rfl) (fun b hb=>?_)) e
  . by_cases q:b=s.heap.objs.size
    . subst q;exact .inr ⟨.inl qa4,hd⟩
    . rw[qa9 q];exact .inl (R.newO hb)
  . by_cases q:b=a'
    . subst q;exact ⟨_,h2⟩
    . exact ⟨o,h4 b o q ho⟩
  . have:b=a':=R.uniq _ _ _ hb hg;subst this;exact ⟨fd,_,_,[v],h2,qa4,h3,⟨v,[],rfl,rv.up e,rfl⟩,fun y=>by
      rw[A9,AU];by_cases q:y=x
      . subst q;simp
      . have:(y==x)=false:=by simpa using q
        rw[this,if_neg q];rfl,rfl⟩
theorem qle {v:Value}(R:Rep W fr g σ s)(hn:σ[n]?=some (.elem attrs vals))(ra:RV W g s.heap (.loc n) va)(rv:RV W g s.heap av v)(hp:plain av=true)(hl:AW (.type "function") x=pure none)(hz:attrs.length+1<=Ai){Q:Unit->Al->Prop}(hQ:∀g' s',Rep W fr g' (σ.set n (.elem (x::attrs) (av::vals))) s'->Evo W noX (·=n) g s.heap g' s'.heap->Q () s'):wpAny (model W.prog W.w) A (GX va x v) Q E s:=by
  refine qbb (qgc R hn ra) ?_;intro a fd d mh vs eq_3_5 hg h1 h2 h3 h4 h5 h6;subst eq_3_5;have hmh:mh=fun y=>(attrs.zip vs).lookup y:=funext h5
  subst hmh;refine qhj h1 h3 hl (fun h' tk' h7 h8=>?_) (qgn (α:=Unit)) hz;have hda:a≠d:=fun q=>by rw[q,h2] at hg;cases hg
  have hk:∀b o,s.heap.get? b=some o->g b≠.loc n->g b≠.aux n->h'.get? b=some o:=fun b o ho _ q=>h8 b o (fun q'=>q (by rw[q'];exact h2)) ho
  have e:=Evo.setLoc (g':=g) R (n:=n) (fun b o ho=>rfl) hk;have hd:∃o,h'.get? d=some o:=by refine qbw (h7) ?_;intro o _ _ q _;exact ⟨o,q⟩
  refine hQ _ _ (R.setLoc (ao':=.elem (x::attrs) (av::vals)) tk' hn (fun b o ho=>rfl) (fun b hb=>.inl (R.newO hb)) hk (fun b o ho hq=>?_) ?_ (fun b hb=>?_)) e
  . by_cases q:b=d
    . subst q;exact hd
    . exact ⟨o,h8 b o q ho⟩
  . have:=R.pl n _ hn;show (plain av&&plains vals)=true;rw[hp];exact this
  . have:b=a:=R.uniq _ _ _ hb hg;subst this;exact ⟨fd,d,_,v::vs,h8 b _ hda h1,h2,h7,⟨v,vs,rfl,rv.up e,h4.up e⟩,fun y=>by
      rw[A9,AU];by_cases q:y=x
      . subst q;simp
      . have:(y==x)=false:=by simpa using q
        rw[this,if_neg q],by simp[h6]⟩
theorem Evo.toN (e:Evo W noX (·=n) g h g' h')(hY:Y n):Evo W noX Y g h g' h':=e.wk fun m q=>q ▸ hY
theorem Icq {o:Expr}(he:Ev C k fr m σ o (.loc n) z1)(hn:z1[n]?=some .fn0)(hl:AW (.type "function") x=pure none)(hY:C.Y n)(hp:autoParam (plain av=true) ap0._auto_1):
    As C k fr m σ (.Attribute o x p) av m (z1.set n (.elem [x] [av])):=fun A env g s v rm R F rv Q E hQ=>by
  rw[arm_assign_Attribute];refine Aa (AK (he A env g s rm R F _ _ fun va g1 s1a R1 e1a ra=>?_));refine Aa (AP (Aa (AK (qml R1 hn ra (rv.up e1a) hp hl fun g2 s2 R2 e2a=>?_))));have e:=e1a.trans (e2a.toN hY);exact wpAny_release (hQ g2 s2 R2 e.toX (F.up e))
theorem Ic1 {o:Expr}(he:Ev C k fr m σ o (.loc n) z1)(hn:z1[n]?=some (.elem attrs vals))(hl:AW (.type "function") x=pure none)(hY:C.Y n)(hp:autoParam (plain av=true) ap0._auto_1)(hz:autoParam (attrs.length+1<=Ai) ap2._auto_1):
    As C k fr m σ (.Attribute o x p) av m (z1.set n (.elem (x::attrs) (av::vals))):=fun A env g s v rm R F rv Q E hQ=>by
  rw[arm_assign_Attribute];refine Aa (AK (he A env g s rm R F _ _ fun va g1 s1a R1 e1a ra=>?_));refine Aa (AP (Aa (AK (qle R1 hn ra (rv.up e1a) hp hl hz fun g2 s2 R2 e2a=>?_))));have e:=e1a.trans (e2a.toN hY);exact wpAny_release (hQ g2 s2 R2 e.toX (F.up e))
theorem qjm (R:Rep W fr g σ s){e:Addr}(hx:FM s.heap h' e "AttributeError")(tk:Nat):Rep W fr g σ { s with heap:=h',toks:=tk }/\Evo W noX noY g s.heap g h':=R.keeps tk hx.keeps
theorem Iby (hn:σ[n]?=some (.elem attrs vals))(hx:(attrs.zip vals).lookup x=some av)(ho:qks av=true)(hl:AW (.type "function") x=pure none):
    Calls W Y k fr σ (.glob (.builtin "hasattr")) [.loc n,.str x] [] [] (.bool true) σ:=fun A g s vf us ks rm R rf ru rk Q E hQ=>by
  obtain rfl:vf=.builtin "hasattr":=rf;refine qa1 (ru) ?_;intro v1 q1 eq_5_2 r1 q;subst eq_5_2;refine qa1 (q) ?_;(try clear q);intro v2 q2 eq_6_2 ne_6_3 q;subst eq_6_2;obtain ⟨t,rfl⟩:=ne_6_3;obtain rfl:q2=[]:=q;refine qbb (qgc R hn r1) ?_;intro a fd d mh vs eq_7_5 hg h1 h2 h3 h4 h5 h6;subst eq_7_5;refine qa5 (qem h4 hx) ?_;intro v hv rv;refine qcd h1 rfl qec hl (qiw h1 h3.ns hl (by rw[h5];exact hv) (qn2 rv ho) ?_);exact hQ _ g s R Evo.refl rfl
theorem Icv (hn:σ[n]?=some (.elem attrs vals))(hx:x∉attrs)(hl:AW (.type "function") x=pure none)(hnm:(["__module__", "__name__", "__qualname__", "__doc__", "__annotations__"]:List Str).contains x=false)(hz:x.length+100<=Ai):
    Calls W Y k fr σ (.glob (.builtin "hasattr")) [.loc n,.str x] [] [] (.bool false) σ:=fun A g s vf us ks rm R rf ru rk Q E hQ=>by
  obtain rfl:vf=.builtin "hasattr":=rf;refine qa1 (ru) ?_;intro v1 q1 eq_9_2 r1 q;subst eq_9_2;refine qa1 (q) ?_;(try clear q);intro v2 q2 eq_10_2 ne_10_3 q;subst eq_10_2;obtain ⟨t,rfl⟩:=ne_10_3;obtain rfl:q2=[]:=q;refine qbb (qgc R hn r1) ?_;intro a fd d mh vs eq_11_5 hg h1 h2 h3 h4 h5 h6;subst eq_11_5;have hv:mh x=none:=by
    cases hq:mh x with
    | none=>rfl
    | some v=>rw[h5] at hq;exact absurd (qgn (α:=Unit) (vs:=vs) x (by show List.lookup x (attrs.zip vs)≠none;rw[hq];simp)) hx
  refine qcd h1 rfl qec hl (qo1 rm.handled h1 h3.ns hl hv hnm (fun h' tk e hx'=>?_) hz);obtain ⟨R',e'⟩:=qjm R hx' tk;exact ⟨e,rfl,(by refine qa1 (hx'.there) ?_;intro ob _ q1 q2 _;exact ⟨ob,q1,q2⟩),hQ _ g _ R' e'.no rfl⟩
theorem Icc (hL:Lv σ v l):
    Calls W Y k fr σ (.glob (.builtin "hasattr")) [v,.str "tag"] [] [] (.bool false) σ:=fun A g s vf us ks rm R rf ru rk Q E hQ=>by
  obtain rfl:vf=.builtin "hasattr":=rf;refine qa1 (ru) ?_;intro v1 q1 eq_14_2 r1 q;subst eq_14_2;refine qa1 (q) ?_;(try clear q);intro v2 q2 eq_15_2 ne_15_3 q;subst eq_15_2;obtain ⟨t,rfl⟩:=ne_15_3;obtain rfl:q2=[]:=q;refine qa2 (hL.at R r1) ?_;intro a vs n eq_16_3 ho hr _;subst eq_16_3;refine qcd ho rfl qdg qgt (qjp rm.handled ho qgt (by decide) (fun h' tk e hx'=>?_) (by decide));obtain ⟨R',e'⟩:=qjm R hx' tk;exact ⟨e,rfl,(by refine qa1 (hx'.there) ?_;intro ob _ q1 q2 _;exact ⟨ob,q1,q2⟩),hQ _ g _ R' e'.no rfl⟩
end
end
section
mutual
noncomputable def toP:AV->B5
  | .none=>.none
  | .bool b=>.bool b
  | .int i=>.int i
  | .str x=>.str x
  | .tup l=>.tuple (qlb l)
  | .lst l=>.list (qlb l)
  | _=>.none
termination_by structural x=>x
noncomputable def qlb:List AV->List B5
  | []=>[]
  | a::l=>toP a::qlb l
termination_by structural x=>x
end
mutual
noncomputable def isD:AV->Bool
  | .none=>true
  | .int _=>true
  | .str x=>Bt x
  | .tup l=>ql1 l
  | .lst l=>ql1 l
  | _=>false
termination_by structural x=>x
noncomputable def ql1:List AV->Bool
  | []=>true
  | a::l=>isD a&&ql1 l
termination_by structural x=>x
end
mutual
theorem RV.reads:(av:AV)->isD av=true->(v:Value)->RV W g h av v->∃as,Reads h v (toP av) as
  | .none,_,v,r=>by obtain rfl:v=.none:=r;exact ⟨_,.none⟩
  | .int i,_,v,r=>by obtain ⟨t,rfl⟩:=r;exact ⟨_,.int i t⟩
  | .str x,_,v,r=>by obtain ⟨t,rfl⟩:=r;exact ⟨_,.str x t⟩
  | .tup l,hd,v,r=>by
    refine qa2 (r) ?_;intro a vs n eq_2_3 hg ho hr;subst eq_2_3;obtain ⟨as,q⟩:=RVs.reads l hd _ hr;exact ⟨_,.tuple ho rfl rfl q⟩
  | .lst l,hd,v,r=>by
    refine qa2 (r) ?_;intro a vs n eq_4_3 hg ho hr;subst eq_4_3;obtain ⟨as,q⟩:=RVs.reads l hd _ hr;exact ⟨_,.list ho rfl rfl q⟩
  | .bool b,hd,_,_=>by cases (hd:false=true)
  | .loc n,hd,_,_=>by cases (hd:false=true)
  | .glob w,hd,_,_=>by cases (hd:false=true)
  | .bound f s,hd,_,_=>by cases (hd:false=true)
  | .clo l ns cs,hd,_,_=>by cases (hd:false=true)
  | .any,hd,_,_=>by cases (hd:false=true)
termination_by structural x=>x
theorem RVs.reads:(l:List AV)->ql1 l=true->(vs:List Value)->RVs W g h l vs->∃as,ReadsAll h vs (qlb l) as
  | [],_,vs,r=>by obtain rfl:vs=[]:=r;exact ⟨_,.nil⟩
  | a::l,hd,vs,r=>by
    refine qa1 (r) ?_;intro v q eq_6_2 r1 r2;subst eq_6_2;have hd':(isD a&&ql1 l)=true:=hd;rw[AG] at hd';refine Aq (RV.reads a hd'.1 _ r1) ?_;intro as q1;refine Aq (RVs.reads l hd'.2 _ r2) ?_;intro bs q2;exact ⟨_,.cons q1 q2⟩
termination_by structural x=>x
end
mutual
theorem qhw:(av:AV)->isD av=true->(toP av).canLay0=true
  | .none,_=>rfl
  | .int i,_=>rfl
  | .str x,h=>h
  | .tup l,h=>qge l h
  | .lst l,h=>qge l h
  | .bool b,hd=>by cases (hd:false=true)
  | .loc n,hd=>by cases (hd:false=true)
  | .glob w,hd=>by cases (hd:false=true)
  | .bound f s,hd=>by cases (hd:false=true)
  | .clo l ns cs,hd=>by cases (hd:false=true)
  | .any,hd=>by cases (hd:false=true)
termination_by structural x=>x
theorem qge:(l:List AV)->ql1 l=true->B5.canLayAll0 (qlb l)=true
  | [],_=>rfl
  | a::l,h=>by
    have hd':(isD a&&ql1 l)=true:=h;rw[AG] at hd';exact AJ.mpr ⟨qhw a hd'.1,qge l hd'.2⟩
termination_by structural x=>x
end
mutual
theorem qpv:(a b:AV)->isD a=true->isD b=true->(B5.eqv (toP a) (toP b)=true↔a=b)
  | .none,b,ha,hb=>by
    cases b with
    | none=>exact ⟨fun _=>rfl,fun _=>rfl⟩
    | _=>first | (cases (hb:false=true)) | exact ⟨fun q=>absurd (show false=true from q) Bg,fun q=>nomatch q⟩
  | .int i,b,ha,hb=>by
    cases b with
    | int j=>exact ⟨fun q=>congrArg AV.int (CK q),fun q=>AV.int.inj q ▸ beq_self_eq_true i⟩
    | _=>first | (cases (hb:false=true)) | exact ⟨fun q=>absurd (show false=true from q) Bg,fun q=>nomatch q⟩
  | .str x,b,ha,hb=>by
    cases b with
    | str y=>exact ⟨fun q=>congrArg AV.str (CK q),fun q=>AV.str.inj q ▸ beq_self_eq_true x⟩
    | _=>first | (cases (hb:false=true)) | exact ⟨fun q=>absurd (show false=true from q) Bg,fun q=>nomatch q⟩
  | .tup l,b,ha,hb=>by
    cases b with
    | tup l'=>exact ⟨fun q=>congrArg AV.tup ((qiy l l' ha hb).mp q),fun q=>(qiy l l' ha hb).mpr (AV.tup.inj q)⟩
    | _=>first | (cases (hb:false=true)) | exact ⟨fun q=>absurd (show false=true from q) Bg,fun q=>nomatch q⟩
  | .lst l,b,ha,hb=>by
    cases b with
    | lst l'=>exact ⟨fun q=>congrArg AV.lst ((qiy l l' ha hb).mp q),fun q=>(qiy l l' ha hb).mpr (AV.lst.inj q)⟩
    | _=>first | (cases (hb:false=true)) | exact ⟨fun q=>absurd (show false=true from q) Bg,fun q=>nomatch q⟩
  | .bool b,_,hd,_=>by cases (hd:false=true)
  | .loc n,_,hd,_=>by cases (hd:false=true)
  | .glob w,_,hd,_=>by cases (hd:false=true)
  | .bound f s,_,hd,_=>by cases (hd:false=true)
  | .clo l ns cs,_,hd,_=>by cases (hd:false=true)
  | .any,_,hd,_=>by cases (hd:false=true)
termination_by structural x=>x
theorem qiy:(l l':List AV)->ql1 l=true->ql1 l'=true->(B5.eqvAll (qlb l) (qlb l')=true↔l=l')
  | [],[],_,_=>⟨fun _=>rfl,fun _=>rfl⟩
  | [],_::_,_,_=>⟨fun q=>absurd (show false=true from q) Bg,fun q=>nomatch q⟩
  | a::l,l',ha,hb=>by
    cases l' with
    | nil=>exact ⟨fun q=>absurd (show false=true from q) Bg,fun q=>nomatch q⟩
    | cons b l'=>
      have ha':(isD a&&ql1 l)=true:=ha;have hb':(isD b&&ql1 l')=true:=hb;rw[AG] at ha' hb';show (B5.eqv (toP a) (toP b)&&B5.eqvAll (qlb l) (qlb l'))=true↔_;rw[AG,List.cons.injEq,qpv a b ha'.1 hb'.1,qiy l l' ha'.2 hb'.2]
termination_by structural x=>x
end
def Dv (σ:List AObj) (a d:AV):Prop:=(a=d\/∃(n:Nat) (l:List AV),a=.loc n/\σ[n]?=some (.lst l)/\d=.lst l)/\isD d=true/\(toP d).depth<=64
theorem Dv.lv {a:AV}(hL:Lv σ a l)(h:ql1 l=true)(hd:(toP (.lst l)).depth<=64):Dv σ a (.lst l):=by
  rcases hL with rfl | ⟨n,rfl,e⟩
  . exact ⟨.inl rfl,h,hd⟩
  . exact ⟨.inr ⟨n,l,rfl,e,rfl⟩,h,hd⟩
section
theorem Dv.reads {a d:AV}{v:Value}(D:Dv σ a d)(R:Rep W fr g σ s)(r:RV W g s.heap a v):∃as,Reads s.heap v (toP d) as:=by
  refine qgj (D) ?_;intro h hd _;rcases h with rfl | ⟨n,l,rfl,e,rfl⟩
  . exact r.reads a hd v
  . refine qa5 (r) ?_;intro b eq_10_1 hg;subst eq_10_1;refine qjl (R.locs n _ e) ?_;intro b' hg' vs m ho hr;have:b'=b:=R.uniq _ _ _ hg' hg;subst this;obtain ⟨as,q⟩:=hr.reads l hd _;exact ⟨_,.list ho rfl rfl q⟩
theorem Dv.shaped {a d:AV}(D:Dv σ a d):Gb (toP d)=true:=by
  unfold Gb;rw[qhw d D.2.1,Bool.true_and];exact decide_eq_true D.2.2
theorem Room.eqv (rm:Room k fr A):A.units+64<cLine:=by have:=rm.units;have:cLine=9900:=rfl;lia
theorem Ibo {a b da db:AV}{c:Bool}(ha:Dv σ a da)(hb:Dv σ b db)(hc:c=true↔da=db):Op2 W Y k fr σ (CM .Eq) a b (.bool c) σ:=fun A g s va vb rm R ra rb Q E hQ=>by
  obtain ⟨as,ra'⟩:=ha.reads R ra;obtain ⟨bs,rb'⟩:=hb.reads R rb;have e:B5.eqv (toP da) (toP db)=c:=by
    have:=qpv da db ha.2.1 hb.2.1;rw[<- hc] at this;exact D6.mpr this
  exact SeqAt.compareEq_shaped ra' rb' ha.shaped hb.shaped rm.eqv (by rw[e];exact hQ _ g s R Evo.refl rfl)
theorem Ics {a b da db:AV}{c:Bool}(ha:Dv σ a da)(hb:Dv σ b db)(hc:c=true↔da≠db):Op2 W Y k fr σ (CM .NotEq) a b (.bool c) σ:=fun A g s va vb rm R ra rb Q E hQ=>by
  obtain ⟨as,ra'⟩:=ha.reads R ra;obtain ⟨bs,rb'⟩:=hb.reads R rb;have e:(!PyData.eqv (toP da) (toP db))=c:=by
    have:=qpv da db ha.2.1 hb.2.1;refine D6.mpr ?_;rw[hc,Bool.not_eq_true',Ne,<- this];simp
  exact SeqAt.compareNe_shaped ra' rb' ha.shaped hb.shaped rm.eqv (by rw[e];exact hQ _ g s R Evo.refl rfl)
theorem Ibf {t:Value->Value->Sem Value}{a b:Int}{c:Bool}(h:∀(A:BF) (s:Al) (ta tb:Tok) (Q:Value->Al->Prop) (E:Value->Al->Prop),A.handled=none->Q (.bool c) s->wpAny (model W.prog W.w) A (t (.int a ta) (.int b tb)) Q E s):
    Op2 W Y k fr σ t (.int a) (.int b) (.bool c) σ:=fun A g s va vb rm R ha hb Q E hQ=>by
  obtain ⟨ta,rfl⟩:=ha;obtain ⟨tb,rfl⟩:=hb;exact h A s ta tb Q E rm.handled (hQ _ g _ R Evo.refl rfl)
theorem Op2.lt {a b:Int}:Op2 W Y k fr σ (CM .Lt) (.int a) (.int b) (.bool (decide (a<b))) σ:=Ibf fun _ _ _ _ _ _ _ h=>PyProof.Rows.lt_int h
theorem Op2.le {a b:Int}:Op2 W Y k fr σ (CM .LtE) (.int a) (.int b) (.bool (decide (a<=b))) σ:=Ibf fun _ _ _ _ _ _ _ h=>PyProof.Rows.le_int h
theorem Icf {a b:Int}:Op2 W Y k fr σ (CM .Gt) (.int a) (.int b) (.bool (decide (b<a))) σ:=Ibf fun _ _ _ _ _ _ _ h=>PyProof.Rows.gt_int h
theorem Op2.ge {a b:Int}:Op2 W Y k fr σ (CM .GtE) (.int a) (.int b) (.bool (decide (b<=a))) σ:=Ibf fun _ _ _ _ _ _ _ h=>PyProof.Rows.ge_int h
theorem Ib2 {a b:Int}:Op2 W Y k fr σ (CM .Eq) (.int a) (.int b) (.bool (a==b)) σ:=Ibf fun _ _ _ _ _ _ _ h=>PyProof.Rows.eq_int h
theorem Op2.and {a b:Int}:Op2 W Y k fr σ (C5 .BitAnd) (.int a) (.int b) (.int (AE a b)) σ:=Ias fun _ _ _ _ _ _ _ h=>PyProof.Rows.and_int h
theorem Iee {a b:Int}:Op2 W Y k fr σ (C5 .BitOr) (.int a) (.int b) (.int (DC a b)) σ:=Ias fun _ _ _ _ _ _ _ h=>PyProof.Rows.or_int h
theorem Ie8 {a b:Int}:Op2 W Y k fr σ (inplaceOp .BitOr) (.int a) (.int b) (.int (DC a b)) σ:=Ias fun _ _ _ _ _ _ _ h=>PyProof.Rows.ior_int h
theorem Id9 {a b:Int}:Op2 W Y k fr σ (inplaceOp .BitXor) (.int a) (.int b) (.int (Fq a b)) σ:=Ias fun _ _ _ _ _ _ _ h=>PyProof.Rows.ixor_int h
theorem Icz {a n:Int}(hn:0<=n)(hn2:n<=1000000)(ha:a.natAbs<2 ^ 64):Op2 W Y k fr σ (C5 .LShift) (.int a) (.int n) (.int (a*2 ^ n.toNat)) σ:=Ias fun _ _ _ _ _ _ _ h=>PyProof.Rows.lshift_int_small hn hn2 ha h
theorem Idx {a n:Int}(hn:0<=n)(hn2:n<=1000000)(ha:a.natAbs<2 ^ 64):Op2 W Y k fr σ (inplaceOp .LShift) (.int a) (.int n) (.int (a*2 ^ n.toNat)) σ:=Ias fun _ _ _ _ _ _ _ h=>PyProof.Rows.ilshift_int_small hn hn2 ha h
theorem Ic6 {a n:Int}(hn:0<=n):Op2 W Y k fr σ (C5 .RShift) (.int a) (.int n) (.int (a.fdiv (2 ^ n.toNat))) σ:=Ias fun _ _ _ _ _ _ _ h=>PyProof.Rows.rshift_int hn h
theorem Ic7 {a n:Int}(hn:0<=n)(hn2:n<=1000000)(ha:a.natAbs<2 ^ 64):Op2 W Y k fr σ (C5 .Pow) (.int a) (.int n) (.int (a ^ n.toNat)) σ:=Ias fun _ _ _ _ _ _ _ h=>PyProof.Rows.pow_int_small hn hn2 ha h
noncomputable def isNone:AV->Option Bool
  | .none=>some true
  | .any=>Option.none
  | .glob v=>some (v==.none)
  | _=>some false
theorem qnw {a:AV}{v:Value}{b:Bool}(r:RV W g h a v)(hb:isNone a=some b):(v==Value.none)=b:=by
  cases a with
  | none=>obtain rfl:v=.none:=r;obtain rfl:=Sj hb;rfl
  | bool c=>obtain rfl:v=.bool c:=r;obtain rfl:=Sj hb;rfl
  | int i=>obtain ⟨t,rfl⟩:=r;obtain rfl:=Sj hb;rfl
  | str x=>obtain ⟨t,rfl⟩:=r;obtain rfl:=Sj hb;rfl
  | tup l=>refine qbw (r) ?_;intro a vs n eq_27_3 _;subst eq_27_3;obtain rfl:=Sj hb;rfl
  | lst l=>refine qbw (r) ?_;intro a vs n eq_28_3 _;subst eq_28_3;obtain rfl:=Sj hb;rfl
  | loc n=>refine qa5 (r) ?_;intro a eq_29_1 _;subst eq_29_1;obtain rfl:=Sj hb;rfl
  | glob w=>obtain rfl:v=w:=r;obtain rfl:=Sj hb;rfl
  | bound f s=>refine qcr (r) ?_;intro a u eq_30_2 _;subst eq_30_2;obtain rfl:=Sj hb;rfl
  | clo l ns cs=>refine qbw (r) ?_;intro a fd vs eq_31_3 _;subst eq_31_3;obtain rfl:=Sj hb;rfl
  | any=>cases hb
theorem Op2.isNone {a:AV}{b:Bool}(h:autoParam (isNone a=some b) ap0._auto_1):Op2 W Y k fr σ (CM .Is) a .none (.bool b) σ:=fun A g s va vb rm R ra rb Q E hQ=>by
  obtain rfl:vb=.none:=rb;exact is_none_gen (by rw[qnw ra h];exact hQ _ g s R Evo.refl rfl)
theorem Ib4 {c d:Bool}:Op2 W Y k fr σ (CM .Is) (.bool c) (.bool d) (.bool (c==d)) σ:=fun A g s va vb rm R ra rb Q E hQ=>by
  obtain rfl:va=.bool c:=ra;obtain rfl:vb=.bool d:=rb;exact is_bool (hQ _ g s R Evo.refl rfl)
theorem Ice:Op2 W Y k fr σ (CM .Is) (.loc n) (.loc n) (.bool true) σ:=fun A g s va vb rm R ra rb Q E hQ=>by
  refine qa5 (ra) ?_;intro a eq_32_1 hg;subst eq_32_1;refine qa5 (rb) ?_;intro b eq_33_1 hg';subst eq_33_1;have:a=b:=R.uniq a b n hg hg';subst this;show wpAny _ A (do return Value.bool (<- isSame (.ref a) (.ref a))) Q E s;refine Aa ?_;show wpAny _ A (if (a==a)=true then pure true else _) _ E s;rw[if_pos (beq_self_eq_true a)];exact Ag (Ag (hQ _ g s R Evo.refl rfl))
theorem Tv.bool {b:Bool}:Tv W Y k fr σ (.bool b) b:=fun A g s va rm R ra Q E hQ=>by
  obtain rfl:va=.bool b:=ra;exact DG (hQ g s R Evo.refl)
end
end
section
section
noncomputable abbrev qa7 (ns:List Int):List AV:=ns.map .int
theorem RVs.pairs:∀{ns:List Int} {vs:List Value},RVs W g h (qa7 ns) vs->∃l:List (Int×Tok),vs=l.map (fun p=>Value.int p.1 p.2)/\l.map (·.1)=ns
  | [],vs,r=>by obtain rfl:vs=[]:=r;exact ⟨[],rfl,rfl⟩
  | n::ns,vs,r=>by
    refine qa1 (r) ?_;intro v q eq_1_2 ne_1_3 r2;subst eq_1_2;obtain ⟨t,rfl⟩:=ne_1_3;refine qa5 (RVs.pairs r2) ?_;intro l eq_2_1 eq_2_2;subst eq_2_1;subst eq_2_2;exact ⟨(n,t)::l,rfl,rfl⟩
theorem RVs.items {ns:List Int}{vs:Array Value}(r:RVs W g h (qa7 ns) vs.toList):∃xs:Array (Int×Tok),vs=intItems xs/\xs.toList.map (·.1)=ns:=by
  refine qa5 (RVs.pairs r) ?_;intro l e eq_3_2;subst eq_3_2;refine ⟨l.toArray,?_,by rfl⟩;apply Array.toList_inj.mp;rw[e];simp[intItems]
theorem Rep.updList (R:Rep W fr g σ s){l':List AV}{vs:Array Value}{m:Nat}(tk:Nat)(hn:σ[n]?=some (.lst l))(hg:g a=.loc n)(ho:s.heap.get? a=some (qaa vs m)){f:Array Value->Array Value}(hr:RVs W g s.heap l' (f vs).toList)(hp:plains l'=true):Rep W fr g (σ.set n (.lst l')) { s with heap:=s.heap.update a (AO f),toks:=tk }/\Evo W noX (·=n) g s.heap g (s.heap.update a (AO f)):=by
  have hnew:=IsL.update ho f;have hother:∀b o,s.heap.get? b=some o->b≠a->(s.heap.update a (AO f)).get? b=some o:=fun b o q hb=>(DS _ _ _ _ hb).trans q
  have hk:∀b o,s.heap.get? b=some o->g b≠.loc n->g b≠.aux n->(s.heap.update a (AO f)).get? b=some o:=fun b o q h1 _=>hother b o q fun e=>h1 (e ▸ hg)
  have e:=Evo.setLoc (g':=g) R (n:=n) (fun _ _ _=>rfl) hk;refine ⟨R.setLoc (ao':=.lst l') tk hn (fun _ _ _=>rfl) (fun b hb=>.inl (R.newO hb)) hk (fun b o q _=>?_) hp (fun b hb=>?_),e⟩
  . by_cases hb:b=a
    . subst hb;exact ⟨_,hnew⟩
    . exact ⟨o,hother b o q hb⟩
  . have:b=a:=R.uniq _ _ _ hb hg;subst this;exact ⟨_,_,hnew,hr.up e⟩
theorem qtz (h:i<=2 ^ 24):¬(!Builtin.List.listFitsIndex ((i:Nat):Int))=true:=by
  simp[Fs];lia
theorem qhf (R:Rep W fr g σ s)(hn:σ[n]?=some (.lst l))(ra:RV W g s.heap (.loc n) va):∃a vs m,va=.ref a/\g a=.loc n/\s.heap.get? a=some (qaa vs m)/\RVs W g s.heap l vs.toList:=by
  refine qa5 (ra) ?_;intro a eq_4_1 hg;subst eq_4_1;refine qjl (R.locs n _ hn) ?_;intro a' hg' vs m ho hr;have:a'=a:=R.uniq _ _ _ hg' hg;subst this;exact ⟨a',vs,m,rfl,hg,ho,hr⟩
theorem Icl {a b:AV}{l':List AV}(ha:Lv σ a l)(hb:Lv σ b l')(hz:l.length+l'.length<=Ai):Op2 W Y k fr σ (C5 .Add) a b (.lst (l++l')) σ:=fun A g s va vb rm R ra rb Q E hQ=>by
  refine qa2 (ha.at R ra) ?_;intro x vs n eq_6_3 ho hr _;subst eq_6_3;refine qa2 (hb.at R rb) ?_;intro y us n' eq_7_3 ho' hr' _;subst eq_7_3;have e1:vs.size=l.length:=by rw[<- AC,hr.length]
  have e2:us.size=l'.length:=by rw[<- AC,hr'.length]
  refine AD ?_ (R.newFz (qaa (vs++us) 0));intro R2 e2a;refine PySem.P.add_list ho ho' (hQ _ _ _ R2 e2a.no ⟨_,_,_,rfl,qa4,Ar _ rfl,?_⟩) (by rw[e1,e2];exact hz);rw[E4];exact (hr.append hr').up e2a
theorem qdw {vs:Array Value}:∀n acc,(List.foldl (fun x1 x2=>x1++x2) acc (AR n vs)).toList=acc.toList++(AR n vs.toList).flatten
  | 0,acc=>by simp
  | n+1,acc=>by rw[DT,Gl,qdw n,DT,FD,E4,AX]
theorem RVs.flat {vs:List Value}(r:RVs W g h l vs):∀n,RVs W g h (AR n l).flatten (AR n vs).flatten
  | 0=>rfl
  | n+1=>by rw[DT,FD,DT,FD];exact r.append (RVs.flat r n)
theorem qpb {a:AV}{n:Int}{vb:Value}(ha:Lv σ a l)(h0:0<=n)(h1:n<2 ^ 24)(hz:l.length*n.toNat<=2 ^ 24)(R:Rep W fr g σ s)(ra:RV W g s.heap a va)(rb:RV W g s.heap (.int n) vb)(hQ:∀vs,RVs W g s.heap (AR n.toNat l).flatten vs.toList->Q (.ref s.heap.objs.size) { s with heap:=s.heap.push (qaa vs 0) }):wpAny (model W.prog W.w) A (C5 .Mult va vb) Q E s:=by
  refine qa2 (ha.at R ra) ?_;intro x vs m eq_9_3 ho hr _;subst eq_9_3;obtain ⟨t,rfl⟩:=rb;have e1:vs.size=l.length:=by rw[<- AC,hr.length]
  have ht:n.toNat<2 ^ 24:=by simp_all
  have fin:wpAny (model W.prog W.w) A (C5 .Mult (.ref x) (.int n t)) Q E s:=
    wpAny_binaryOp_repeat_ref (T := "list") (U := "int") (by decide) ⟨_,ho,rfl⟩ (fun s'=>typeIs_int s' n t) noFill_list_mul PySem.F.fills_int_mul PySem.F.slot_int_rmul repeat_list PySem.F.slot_int_index.lookup
      (Gc PySem.F.slot_int_rmul (typeIs_int s n t) PySem.F.entry_int_rmul (PySem.F.args_int_rmul_2 _ _) (int___rmul___int_list n t x vs m)
        ⟨ho,rfl,⟨_,ho,rfl⟩,Gc PySem.F.slot_list_mul ⟨_,ho,rfl⟩ PySem.F.entry_list_mul (PySem.F.args_list_mul_2 _ _)
          (AutoListH.list___mul___list_int_3 x vs m n t (by simp[Fs];lia) (by rw[e1];lia) (by simp[AA.List.listTooLong,Ai];rw[e1];omega))
          ⟨ho,hQ _ ?_⟩⟩)
  . exact fin
  . rw[qdw];by_cases he:vs.isEmpty=true
    . rw[if_pos he];have hv:vs=#[]:=by simpa using he
      subst hv;have:l=[]:=by cases l with | nil=>rfl | cons _ _=>simp at e1
      subst this;have e3:(AR n.toNat ([]:List AV)).flatten=[]:=by simp
      rw[e3];simp;rfl
    . rw[if_neg he];exact hr.flat _
theorem Idw {a:AV}{n:Int}(ha:Lv σ a l)(h0:0<=n)(h1:n<2 ^ 24)(hz:l.length*n.toNat<=2 ^ 24):Op2 W Y k fr σ (C5 .Mult) a (.int n) (.lst (AR n.toNat l).flatten) σ:=fun A g s va vb rm R ra rb Q E hQ=>by
  refine qpb ha h0 h1 hz R ra rb fun vs hr=>?_
  refine AD ?_ (R.newFz (qaa vs 0));intro R2 e2a;exact hQ _ _ _ R2 e2a.no ⟨_,_,_,rfl,qa4,Ar _ rfl,hr.up e2a⟩
theorem Calls.len (hL:Lv σ v l)(hz:l.length<=Ai):Calls W Y k fr σ (.glob (.builtin "len")) [v] [] [] (.int (l.length:Nat)) σ:=fun A g s vf us ks rm R rf ru rk Q E hQ=>by
  obtain rfl:vf=.builtin "len":=rf;refine qa1 (ru) ?_;intro u q eq_13_2 r q';subst eq_13_2;obtain rfl:q=[]:=q';refine qa2 (hL.at R r) ?_;intro x vs n eq_14_3 ho hr _;subst eq_14_3;have e1:vs.size=l.length:=by rw[<- AC,hr.length]
  have hs:Ai=2 ^ 24:=rfl;refine PySem.Calls.call_len_list (qav ho) (by lia) ?_;exact hQ _ g _ (R.tok _) Evo.refl ⟨s.toks+1,by rw[e1]⟩
theorem Calls.sum {ns:List Int}(hL:Lv σ v (qa7 ns)):Calls W Y k fr σ (.glob (.builtin "sum")) [v] [] [] (.int ns.sum) σ:=fun A g s vf us ks rm R rf ru rk Q E hQ=>by
  obtain rfl:vf=.builtin "sum":=rf;refine qa1 (ru) ?_;intro u q eq_15_2 r q';subst eq_15_2;obtain rfl:q=[]:=q';refine qa2 (hL.at R r) ?_;intro x vs n eq_16_3 ho hr _;subst eq_16_3;refine qa5 (hr.items) ?_;intro xs eq_17_1 hx;subst eq_17_1;refine sum_intListG rm.handled (qav ho) fun h' tk t' hk=>?_
  refine AD ?_ (R.keeps tk hk);intro R1 e1a;refine hQ _ g _ R1 e1a.no ⟨t',?_⟩;rw[preSum_eq,Dw (by simp),hx]
theorem qq6 {xs:Array (Int×Tok)}{v:Value}(hv:(intItems xs)[i]?=some v):∃t,v=.int (numAt xs i) t/\numAt xs i∈xs.toList.map (·.1):=by
  refine Aq (intItems_at hv) ?_;intro t eq_0_1;subst eq_0_1;refine ⟨t,rfl,?_⟩;simp only[intItems,Array.getElem?_map,Option.map_eq_some_iff] at hv;refine qa5 (hv) ?_;intro p hp _;have:p∈xs.toList:=by rw[<- BL] at hp;exact Aw hp
  exact Br.mpr ⟨p,this,by simp[numAt,hp]⟩
theorem qt6 {xs:Array (Int×Tok)}{a:Int}(h:a∈xs.toList.map (·.1)):∃j,j<=xs.size - 1/\a=numAt xs j:=by
  refine qa5 (Br.mp h) ?_;intro p hp eq_21_2;subst eq_21_2;obtain ⟨j,hj,e⟩:=C9.mp hp;have hj':j<xs.size:=by simpa using hj
  refine ⟨j,by omega,?_⟩;have:xs[j]?=some p:=by rw[<- BL,Ad hj,e]
  simp[numAt,this]
theorem Idt {ns:List Int}{M:Int}(hL:Lv σ v (qa7 ns))(hM:M∈ns)(hle:∀a∈ns,a<=M):Calls W Y k fr σ (.glob (.builtin "max")) [v] [] [] (.int M) σ:=fun A g s vf us ks rm R rf ru rk Q E hQ=>by
  obtain rfl:vf=.builtin "max":=rf;refine qa1 (ru) ?_;intro u q eq_23_2 r q';subst eq_23_2;obtain rfl:q=[]:=q';refine qa2 (hL.at R r) ?_;intro x vs n eq_24_3 ho hr _;subst eq_24_3;refine qa5 (hr.items) ?_;intro xs eq_25_1 eq_25_2;subst eq_25_1;subst eq_25_2;have hne:0<xs.size:=by refine qa5 (Br.mp hM) ?_;intro p hp _;have:=List.length_pos_of_mem hp;simpa using this
  refine max_intList rm.handled (qav ho) hne fun v h' tk hv hk=>?_
  refine AD ?_ (R.keeps tk hk);intro R1 e1a;refine qa5 (qq6 hv) ?_;intro t eq_28_1 hm;subst eq_28_1;refine qa5 (qt6 hM) ?_;intro j hj e;have h1:=(argBest_gt (numAt xs) (xs.size - 1)).2 j hj;have h2:=hle _ hm;refine hQ _ g _ R1 e1a.no ⟨t,?_⟩;rw[show numAt xs (argBest (fun i j=>decide (numAt xs i > numAt xs j)) (xs.size - 1))=M by lia]
theorem Ici {a b:Int}:Calls W Y k fr σ (.glob (.builtin "max")) [.int a,.int b] [] [] (.int (Max.max a b)) σ:=fun A g s vf us ks rm R rf ru rk Q E hQ=>by
  obtain rfl:vf=.builtin "max":=rf;refine qa1 (ru) ?_;intro u q eq_37_2 ne_37_3 q';subst eq_37_2;obtain ⟨t,rfl⟩:=ne_37_3;refine qa1 (q') ?_;(try clear q');intro u' q2 eq_38_2 ne_38_3 q';subst eq_38_2;obtain ⟨t',rfl⟩:=ne_38_3;obtain rfl:q2=[]:=q';refine max_two_ints rm.handled fun h' tk hk=>?_
  obtain ⟨R1,e1a⟩:=R.keeps tk hk;refine hQ _ g _ R1 e1a.no ?_;by_cases hb:b > a
  . rw[if_pos hb];exact ⟨t',by rw[show Max.max a b=b by lia]⟩
  . rw[if_neg hb];exact ⟨t,by rw[show Max.max a b=a by lia]⟩
theorem Idk {a b:Int}:Calls W Y k fr σ (.glob (.builtin "min")) [.int a,.int b] [] [] (.int (GN a b)) σ:=fun A g s vf us ks rm R rf ru rk Q E hQ=>by
  obtain rfl:vf=.builtin "min":=rf;refine qa1 (ru) ?_;intro u q eq_40_2 ne_40_3 q';subst eq_40_2;obtain ⟨t,rfl⟩:=ne_40_3;refine qa1 (q') ?_;(try clear q');intro u' q2 eq_41_2 ne_41_3 q';subst eq_41_2;obtain ⟨t',rfl⟩:=ne_41_3;obtain rfl:q2=[]:=q';refine min_two_ints rm.handled fun h' tk hk=>?_
  obtain ⟨R1,e1a⟩:=R.keeps tk hk;refine hQ _ g _ R1 e1a.no ?_;by_cases hb:b<a
  . rw[if_pos hb];exact ⟨t',by rw[show GN a b=b by grind]⟩
  . rw[if_neg hb];exact ⟨t,by rw[show GN a b=a by lia]⟩
theorem Calls.append (hn:σ[n]?=some (.lst l))(hY:Y n)(hp:plain v=true)(hz:l.length<=Ai):Calls W Y k fr σ (.glob (.builtin "list.append")) [.loc n,v] [] [] .none (σ.set n (.lst (l++[v]))):=fun A g s vf us ks rm R rf ru rk Q E hQ=>by
  obtain rfl:vf=.builtin "list.append":=rf;refine qa1 (ru) ?_;intro u q eq_43_2 r1 q';subst eq_43_2;refine qa1 (q') ?_;(try clear q');intro u' q2 eq_44_2 r2 q';subst eq_44_2;obtain rfl:q2=[]:=q';refine qa2 (qhf R hn r1) ?_;intro a vs m eq_45_3 hg ho hr;subst eq_45_3;have e1:vs.size=l.length:=by rw[<- AC,hr.length]
  have hpl:plains l=true:=R.pl n _ hn;refine AD ?_ (R.updList (f:=fun xs=>xs.push u') (l':=l++[v]) s.toks hn hg ho (by rw[C8];exact hr.append (show RVs W g s.heap [v] [u'] from ⟨u',[],rfl,r2,rfl⟩)) (by rw[qal,hpl];show (true&&(plain v&&true))=true;rw[hp];rfl));intro R' e';exact Gc PySem.F.slot_list_append ⟨_,ho,rfl⟩ PySem.F.entry_list_append (PySem.F.args_list_append_2 _ _) (list_append a vs m u' (by rw[e1];exact hz)) ⟨ho,hQ _ _ _ R' (e'.toN hY) rfl⟩
theorem Ibi {x:Int}(hx:x=(i:Nat))(hn:σ[n]?=some (.lst l))(hY:Y n)(hi:i<=l.length)(hp:plain v=true)(hz:l.length<=Ai):Calls W Y k fr σ (.glob (.builtin "list.insert")) [.loc n,.int x,v] [] [] .none (σ.set n (.lst (l.take i++[v]++l.drop i))):=fun A g s vf us ks rm R rf ru rk Q E hQ=>by
  cases (rf:vf=.builtin "list.insert")
  refine qa1 (ru) ?_;intro u q eq_47_2 r1 q';subst eq_47_2;refine qa1 (q') ?_;(try clear q');intro ui q2 eq_48_2 ne_48_3 q';subst eq_48_2;obtain ⟨t,rfl⟩:=ne_48_3;refine qa1 (q') ?_;(try clear q');intro u' q3 eq_49_2 r2 q';subst eq_49_2;cases (q':q3=[])
  refine qa2 (qhf R hn r1) ?_;intro a vs m eq_50_3 hg ho hr;subst eq_50_3;have e1:vs.size=l.length:=by rw[<- AC,hr.length]
  have hs:Ai=2 ^ 24:=rfl;have hpl:plains l=true:=R.pl n _ hn;have hpt:∀i,plains (l.take i)=true/\plains (l.drop i)=true:=fun i=>by
    have:=hpl;rw[<- Eu i l,qal,AG] at this;exact this
  have hk:(if x<0 then (x+((vs.size:Nat):Int)).toNat else GN x.toNat vs.size)=i:=by
    rw[if_neg (by simp_all)];subst hx;simp;simp_all
  obtain ⟨R',e'⟩:=R.updList (f:=fun xs=>have k:=if x<0 then (x+((xs.size:Nat):Int)).toNat else GN x.toNat xs.size;(xs.extract 0 k).push u'++xs.extract k) (l':=l.take i++[v]++l.drop i) s.toks hn hg ho (by
    show RVs W g s.heap _ (((vs.extract 0 (if x<0 then (x+((vs.size:Nat):Int)).toNat else GN x.toNat vs.size)).push u'++vs.extract (if x<0 then (x+((vs.size:Nat):Int)).toNat else GN x.toNat vs.size)).toList);rw[hk,E4,C8];have h1:(vs.extract 0 i).toList=vs.toList.take i:=by simp
    have h2:(vs.extract i).toList=vs.toList.drop i:=by simp[Dw]
    have h3:RVs W g s.heap [v] [u']:=⟨u',[],rfl,r2,rfl⟩
    rw[h1,h2];exact ((hr.take i).append h3).append (hr.drop i)) (by
    rw[qal,qal,(hpt i).1,(hpt i).2];show (true&&(plain v&&true)&&true)=true;rw[hp];rfl)
  have h5:i<=2 ^ 24:=by rw[<- hs];exact Af hi hz
  have h6:vs.size<=Ai:=by rw[e1];exact hz
  have h7:¬(!Builtin.List.listFitsIndex x)=true:=by rw[hx];exact qtz h5
  have M:=AutoListH.list_insert_list_int_val_1 a vs m x t u' h7 h6;refine Gc PySem.F.slot_list_insert ⟨_,ho,rfl⟩ PySem.F.entry_list_insert (PySem.F.args_list_insert_3 _ _ _) M ⟨ho,?_⟩;exact hQ _ _ _ R' (e'.toN hY) rfl
end
end
section
section
theorem Evo.adopt (R:Rep W fr g σ s)(ga:g a=.other)(gn:W.s1.heap.get? a=none)(hk:∀b o,s.heap.get? b=some o->b≠a->h'.get? b=some o):Evo W (·=a) noY g s.heap (qc6 g a (.loc σ.length)) h':=by
  have hne:∀{b},g b≠.other->b≠a:=fun q e=>q (e ▸ ga)
  have hin:∀{b},g b≠.other->qc6 g a (.loc σ.length) b=g b:=fun q=>qa9 (hne q)
  have hnt:∀{b},W.tab b->b≠a:=fun ht e=>Ib1 gn (e ▸ ht)
  exact ⟨fun b o ho hx _=>.of (hk b o ho hx),fun b o n ho hq _=>hk b o ho (hne (by rcases hq with q | q <;> rw[q] <;> nofun)),fun b q hx=>by rw[qa9 hx];exact q,
    fun b n q=>by rw[hin (by rw[q];nofun)];exact q,fun b n q=>by rw[hin (by rw[q];nofun)];exact q,fun b o ho q hx=>.inl (by rw[qa9 hx];exact q),fun b o ht ho=>⟨o,hk b o ho (hnt ht)⟩⟩
theorem Rep.adopt (R:Rep W fr g σ s)(tk:Nat)(ga:g a=.other)(gn:W.s1.heap.get? a=none)(hX:XOk (·=a) g s.heap)(hfr:∀en∈fr,∀f,en.frame=some f->f≠a)(hk:∀b o,s.heap.get? b=some o->b≠a->h'.get? b=some o)(ha:∃o,h'.get? a=some o)(hp:qdb ao=true)(hr:RO W (qc6 g a (.loc σ.length)) h' a σ.length ao):
    Rep W fr (qc6 g a (.loc σ.length)) (σ++[ao]) { s with heap:=h',toks:=tk }/\Evo W (·=a) noY g s.heap (qc6 g a (.loc σ.length)) h':=by
  have hne:∀{b},g b≠.other->b≠a:=fun q e=>q (e ▸ ga)
  have hin:∀{b},g b≠.other->qc6 g a (.loc σ.length) b=g b:=fun q=>qa9 (hne q)
  have hnb:∀{b o},W.s1.heap.get? b=some o->b≠a:=fun ho e=>by rw[e,gn] at ho;cases ho
  have hnt:∀{b},W.tab b->b≠a:=fun ht e=>Ib1 gn (e ▸ ht)
  have e:Evo W (·=a) noY g s.heap (qc6 g a (.loc σ.length)) h':=⟨fun b o ho hx _=>.of (hk b o ho hx),fun b o n ho hq _=>hk b o ho (hne (by rcases hq with q | q <;> rw[q] <;> exact nofun)),fun b q hx=>by rw[qa9 hx];exact q,
    fun b n q=>by rw[hin (by rw[q];exact nofun)];exact q,fun b n q=>by rw[hin (by rw[q];exact nofun)];exact q,fun b o ho q hx=>.inl (by rw[qa9 hx];exact q),fun b o ht ho=>⟨o,hk b o ho (hnt ht)⟩⟩
  have hwl:∀b n,qc6 g a (.loc σ.length) b=.loc n->(b=a/\n=σ.length)\/g b=.loc n:=fun b n hg=>by
    by_cases hb:b=a
    . subst hb;rw[qa4] at hg;injection hg with hg;exact .inl ⟨rfl,hg.symm⟩
    . rw[qa9 hb] at hg;exact .inr hg
  have hwa:∀b n,qc6 g a (.loc σ.length) b=.aux n->g b=.aux n:=fun b n hg=>by
    by_cases hb:b=a
    . subst hb;rw[qa4] at hg;cases hg
    . rw[qa9 hb] at hg;exact hg
  have split:∀(n:Nat) (ao':AObj),(σ++[ao])[n]?=some ao'->σ[n]?=some ao'\/(n=σ.length/\ao'=ao):=fun n ao' ho=>by
    by_cases hn:n<σ.length
    . rw[BC hn] at ho;exact .inl ho
    . rw[CQ (Nat.le_of_not_lt hn)] at ho;have hn':n - σ.length=0:=by
        have:=(Ap.mp ho).1;simp at this;assumption
      rw[hn'] at ho;obtain rfl:=Sj ho;exact .inr ⟨by grind,rfl⟩
  refine ⟨⟨fun b o ho ht=>hk b o (R.base b o ho ht) (hnb ho),fun b o ho=>by rw[qa9 (hnb ho)];exact R.baseO b o ho,fun b ht=>by rw[qa9 (hnt ht)];exact R.tabO b ht,fun b ht=>?_,fun b hb=>?_,fun n ao' ho=>?_,
    fun b c n hb hc=>?_,fun n ao' ho=>?_,fun b n hg=>?_,fun en he=>?_,R.gens,R.os⟩,e⟩
  . refine qaj (R.tabs b ht) ?_;intro more h2 h3 h4;exact ⟨more,hk b _ h2 (hnt ht),h3,fun pos v q=>(h4 pos v q).mono e hX⟩
  . by_cases hq:b=a
    . subst hq;exact ha
    . rw[qa9 hq] at hb;obtain ⟨o',ho'⟩:=R.low b hb;exact ⟨o',hk b o' ho' hq⟩
  . rcases split n ao' ho with q | ⟨rfl,rfl⟩
    . refine qa5 (R.locs n ao' q) ?_;intro b hg hr';exact ⟨b,e.loc b n hg,hr'.mono e hX (fun o q=>hk b o q (hne (by rw[hg];exact nofun))) (fun d hd o q=>hk d o q (hne (by rw[hd];exact nofun))) ao' (R.pl n ao' q)⟩
    . exact ⟨a,qa4,hr⟩
  . rcases hwl b n hb with ⟨qa,qn⟩ | qa <;> rcases hwl c n hc with ⟨qb,rn⟩ | qb
    . rw[qa,qb]
    . have:=R.bnd c n (.inl qb);simp_all
    . have:=R.bnd b n (.inl qa);simp_all
    . exact R.uniq b c n qa qb
  . rcases split n ao' ho with q | ⟨rfl,rfl⟩
    . exact R.pl n ao' q
    . exact hp
  . rw[Ao];rcases hg with hg | hg
    . rcases hwl b n hg with ⟨_,q⟩ | q
      . rw[q];exact Bp _
      . exact Cc (R.bnd b n (.inl q))
    . exact Cc (R.bnd b n (.inr (hwa b n hg)))
  . refine qah (R.frs en he) ?_;intro f o' es ep h1 h2 h3 h4 h5;have hf:=hfr en he f h1;exact ⟨f,o',es,ep,h1,hk f o' h2 hf,h3,by rw[qa9 hf];exact h4,h5⟩
end
noncomputable def prs:List Expr->List Expr->Env->Pos->List (Sem Value×Sem Value)
  | e::ks,v::vs,env,p=>(eval e env,do let x <- eval v env;Dd p;pure x)::prs ks vs env p
  | _,_,_,_=>[]
theorem qi8:∀{ks vs:List Expr},ks.length=vs.length->(evalEachOpt (ks.map some) env).zip ((Gv vs env).map fun v=>do let x <- v;Dd p;pure x)=(prs ks vs env p).map (fun p=>(some p.1,p.2))
  | [],[],_=>rfl
  | e::ks,v::vs,h=>by
    rw[qau];show (some (eval e env),(do let x <- eval v env;Dd p;pure x))::((evalEachOpt (ks.map some) env).zip ((Gv vs env).map fun v=>do let x <- v;Dd p;pure x))=_;rw[qi8 (by simpa using h)];rfl
  | [],_::_,h=>by simp at h
  | _::_,[],h=>by simp at h
theorem qjg:∀{ks vs:List Expr},ks.length=vs.length->(prs ks vs env p).length=ks.length
  | [],[],_=>rfl
  | e::ks,v::vs,h=>by show (prs ks vs env p).length+1=_;rw[qjg (by simpa using h)];rfl
  | [],_::_,h=>by simp at h
  | _::_,[],h=>by simp at h
def EvP (C:Cx) (k:Nat) (fr:List Env) (m:List (Option AV)) (σ:List AObj) (ks vs:List Expr) (ka va:List AV) (z':List AObj):Prop:=
  ∀(A:BF) (env:Env) (g:Addr->Own) (s:Al) (p:Pos),Room k fr A->Rep C.W fr g σ s->Fra C env m g s.heap->∀(Q:List (Value×Value)->Al->Prop) (E:Value->Al->Prop),
    (∀us g' s',Rep C.W fr g' z' s'->Evo C.W noX C.Y g s.heap g' s'.heap->RVs C.W g' s'.heap ka (us.map (·.1))->RVs C.W g' s'.heap va (us.map (·.2))->Q us s') ->
    wpAny (model C.W.prog C.W.w) A (evalPairs (prs ks vs env p)) Q E s
section
theorem EvP.nil:EvP C k fr m σ [] [] [] [] σ:=fun A env g s p rm R F Q E hQ=>evalPairs_nil (hQ [] g s R Evo.refl rfl rfl)
theorem EvP.cons {v:Expr}{ks vs:List Expr}{a b:AV}{ka va:List AV}(he:Ev C k fr m σ e a z1)(hv:Ev C k fr m z1 v b z2)(hr:EvP C k fr m z2 ks vs ka va z'):EvP C k fr m σ (e::ks) (v::vs) (a::ka) (b::va) z':=fun A env g s p rm R F Q E hQ=>by
  refine evalPairs_cons (he A env g s rm R F _ _ fun x g1 s1a R1 e1a ra=>Aa (hv A env g1 s1a rm R1 (F.up e1a) _ _ fun y g2 s2 R2 e2a rb=>Aa (AP (Ag ?_))));exact hr A env g2 s2 p rm R2 ((F.up e1a).up e2a) _ _ fun us g3 s3 R3 e3a r1 r2=>hQ _ g3 s3 R3 ((e1a.trans e2a).trans e3a) ⟨x,us.map (·.1),rfl,(ra.up e2a).up e3a,r1⟩ ⟨y,us.map (·.2),rfl,rb.up e3a,r2⟩
theorem qob {K:Type}[DecidableEq K]{knd:KeyKind C.W.prog C.W.w K}{keys:List (Option Expr)}{ks vs:List Expr}{kk:List K}{enc:K->AV}{va:List AV}(hkeys:keys=ks.map some)(hlen:ks.length=vs.length)(h0:ks≠[])(h15:ks.length<=15)(henc:∀(x:K) (u:Value) (g:Addr->Own) (h:Heap),RV C.W g h (enc x) u->knd.is x u=true)(hnd:kk.Nodup)(he:EvP C k fr m σ ks vs (kk.map enc) va z')(rm:Room k fr A)(R:Rep C.W fr g σ s)(F:Fra C env m g s.heap)(hp:qdb ao=true)(hao:∀(us:List Value) (a n:Nat) (g:Addr->Own) (h:Heap),h.DictOf knd a (kk.zip us)->kk.length=us.length->RVs C.W g h va us->RO C.W g h a n ao)(hQ:∀v' g' s',Rep C.W fr g' (z'++[ao]) s'->Evo C.W noX C.Y g s.heap g' s'.heap->RV C.W g' s'.heap (.loc z'.length) v'->Q v' s'):wpAny (model C.W.prog C.W.w) A (eval (.Dict keys vs p) env) Q E s:=by
  subst hkeys;have htop:=R.top;obtain ⟨R1,e1a⟩:=R.push { cls:=.type "dict",data:=.dict #[] } .other rfl (.inr rfl);have hgo:qc6 g s.heap.objs.size .other=g:=by
    funext a
    by_cases ha:a=s.heap.objs.size
    . subst ha;rw[qa4,htop]
    . exact qa9 ha
  rw[hgo] at R1 e1a;have hne:∀b o,s.heap.get? b=some o->b≠s.heap.objs.size:=fun b o ho=>qgr ho
  have hd0:(s.heap.push { cls:=.type "dict",data:=.dict #[] }).get? s.heap.objs.size=some { cls:=.type "dict",data:=.dict #[] }:=Ar _ rfl;refine wpAny_Dict_pairs (knd:=knd) (pairs:=prs ks vs env p) (qi8 hlen) (by
    have:=qjg (env:=env) (p:=p) hlen;intro q;rw[q] at this;cases ks with | nil=>exact h0 rfl | cons _ _=>simp at this) (by rw[qjg hlen];exact h15) (he A env g _ p rm R1 (F.up e1a) _ _ fun us g2 s2 R2 e2a r1 r2=>?_)
  have ga2:g2 s.heap.objs.size=.other:=by
    rcases e2a.oth _ _ hd0 htop (fun q=>q) with q | ⟨_,v,q⟩
    . exact q
    . rw[(e2a.keep _ _ hd0 (fun q=>q) (.inr ⟨htop,Ib1 (R.new1 (qai _))⟩)).get] at q;injection q with q;injection q with q1 q2 q3;cases q3
  have hd2:=(e2a.keep _ _ hd0 (fun q=>q) (.inr ⟨htop,Ib1 (R.new1 (qai _))⟩)).get;have hcar:∀{kk:List K} {us:List (Value×Value)},RVs C.W g2 s2.heap (kk.map enc) (us.map (·.1))->Carries knd us (kk.zip (us.map (·.2)))/\kk.length=us.length:=by
    intro kk;induction kk with
    | nil=>intro us r;have:us.map (·.1)=[]:=r;cases us with | nil=>exact ⟨Bb,rfl⟩ | cons _ _=>simp at this
    | cons x kk ih=>
      intro us r;refine qa1 (r) ?_;intro v q hv rx rr;cases us with
      | nil=>simp at hv
      | cons u us=>
        obtain ⟨u1,u2⟩:=u;simp at hv;obtain ⟨rfl,rfl⟩:=hv;obtain ⟨i1,i2⟩:=ih rr;exact ⟨⟨henc x u1 _ _ rx,rfl,i1⟩,by simp[i2]⟩
  obtain ⟨hc,hl⟩:=hcar r1;refine ⟨_,hc,⟨_,#[],0,hd2,⟨rfl,rfl,rfl⟩,rfl,fun e he=>absurd he (by simp),.nil,by simp⟩,fun h' hm hs=>?_⟩;have hmg:GB [] (kk.zip (us.map (·.2)))=kk.zip (us.map (·.2)):=merged_nil_of_nodup _ (by
    have:(kk.zip (us.map (·.2))).map (·.1)=kk:=by
      rw[<- List.unzip_fst,List.unzip_zip_left (by simp[hl])]
    rw[this];exact hnd)
  rw[hmg] at hm;have hX:XOk (·=s.heap.objs.size) g2 s2.heap:=fun b hb=>by
    subst hb;exact ⟨.inl ga2,fun o vs ho hd=>by rw[hd2] at ho;obtain rfl:=Sj ho;cases hd⟩
  have hk:∀b o,s2.heap.get? b=some o->b≠s.heap.objs.size->h'.get? b=some o:=fun b o ho hb=>(hs.2 b hb).trans ho
  have hn1:=R.new1 (qai _);have e3a:=Evo.adopt R2 (h':=h') ga2 hn1 hk;have hm':=hm;refine qbw (hm') ?_;intro o' _ _ ho' _;obtain ⟨R4,e4⟩:=R2.adopt (h':=h') (s2.toks+us.length) ga2 hn1 hX (fun en hen f hf q=>by
    refine qdo (R.frs en hen) ?_;intro f' o es ep h3 h4 _;rw[hf] at h3;obtain rfl:=Sj h3;exact hne f o h4 q) hk ⟨o',ho'⟩ (ao:=ao) hp (hao _ _ _ _ _ hm (by simp[hl]) (r2.mono e3a hX va (.inl fun b q=>q ▸ ga2) _))
  refine hQ _ _ _ R4 ?_ ⟨_,rfl,qa4⟩;exact (((e1a.no.trans e2a).toX (X:=(·=s.heap.objs.size))).trans e4.toY).weak R.low (fun b o ho q=>absurd q (hne b o ho)) fun _ q=>q
theorem Ev.dstr {keys:List (Option Expr)}{ks vs:List Expr}{kk:List Str}{va:List AV}(he:EvP C k fr m σ ks vs (kk.map .str) va z')(hp:plains va=true)(hnd:kk.Nodup)(hkeys:keys=ks.map some)(hlen:ks.length=vs.length)(h0:ks≠[])(h15:ks.length<=15):
    Ev C k fr m σ (.Dict keys vs p) (.loc z'.length) (z'++[.dstr kk va]):=fun A env g s rm R F Q E hQ=>
  qob (knd:=PySem.strKind C.W.prog C.W.w) (enc:=AV.str) hkeys hlen h0 h15 (fun x u g h r=>by obtain ⟨t,rfl⟩:=r;simp[PySem.strKind,Value.isStrOf]) hnd he rm R F (ao:=.dstr kk va) hp (fun us a n g h hm hl hr=>⟨us,hm,hl,hr⟩) hQ
theorem qgz (hp:qdb ao=true)(R:Rep C.W fr g σ s)(hao:∀(a n:Nat) (g:Addr->Own) (h:Heap),h.get? a=some { cls:=.type "dict",data:=.dict #[] }->RO C.W g h a n ao)(hQ:∀v' g' s',Rep C.W fr g' (σ++[ao]) s'->Evo C.W noX C.Y g s.heap g' s'.heap->RV C.W g' s'.heap (.loc σ.length) v'->Q v' s'):wpAny (model C.W.prog C.W.w) A (eval (.Dict [] [] p) env) Q E s:=by
  rw[eval_Dict_empty];refine Aa (AP ?_);refine AD ?_ (R.pushLoc { cls:=.type "dict",data:=.dict #[] } (ao:=ao) hp (hao _ _ _ _ (Ar _ rfl)));intro R2 e2a;exact BO (hQ _ _ _ R2 e2a.no ⟨_,rfl,qa4⟩) (by size_fits)
theorem Icn:Ev C k fr m σ (.Dict [] [] p) (.loc σ.length) (σ++[.dstr [] []]):=fun A env g s rm R F Q E hQ=>
  qgz (ao:=.dstr [] []) rfl R (fun a n g h ho=>⟨[],⟨_,#[],0,ho,⟨rfl,rfl,rfl⟩,rfl,fun e he=>absurd he (by simp),.nil,by simp⟩,rfl,rfl⟩) hQ
theorem Ie2:Ev C k fr m σ (.Dict [] [] p) (.loc σ.length) (σ++[.dint [] []]):=fun A env g s rm R F Q E hQ=>
  qgz (ao:=.dint [] []) rfl R (fun a n g h ho=>⟨[],⟨_,#[],0,ho,⟨rfl,rfl,rfl⟩,rfl,fun e he=>absurd he (by simp),.nil,by simp⟩,rfl,rfl⟩) hQ
end
end
section
section
theorem qev (R:Rep W fr g σ s)(hg:g a=.loc n):(a==Cp)=false:=by
  have:a≠Cp:=fun q=>by
    subst q;refine Aq W.sm ?_;intro o ho;rcases R.baseO _ o ho with q | q <;> rw[hg] at q <;> cases q
  simpa using this
noncomputable def qdq {K:Type} [DecidableEq K] (ks:List K) (vs:List AV) (x:K):Option AV:=((ks.zip vs).find? fun kv=>kv.1=x).map (·.2)
theorem qcv {K:Type}[DecidableEq K]{x:K}:∀{ks:List K} {vs:List AV} {us:List Value},RVs W g h vs us->(∀av,qdq ks vs x=some av->∃u,GY (ks.zip us) x=some u/\RV W g h av u)/\(qdq ks vs x=none->ks.length=us.length->GY (ks.zip us) x=none)
  | [],_,_,_=>⟨fun _ q=>by simp[qdq] at q,fun _ _=>rfl⟩
  | y::ks,[],us,r=>⟨fun _ q=>by simp[qdq] at q,fun _ hl=>by obtain rfl:us=[]:=r;simp at hl⟩
  | y::ks,v::vs,us,r=>by
    refine qa1 (r) ?_;intro u q eq_1_2 r1 r2;subst eq_1_2;obtain ⟨i1,i2⟩:=qcv (x:=x) (ks:=ks) r2;unfold qdq GY at *;rw[A9,A9,Go,Go];by_cases hy:y=x
    . subst hy;simp only[decide_true];exact ⟨fun av e=>by simp at e;subst e;exact ⟨u,rfl,r1⟩,fun e=>by simp at e⟩
    . simp only[hy,decide_false];exact ⟨i1,fun e hl=>i2 e (by simpa using hl)⟩
end
section
theorem qj2:AW (.type "dict") "__getitem__"=pure (some (.builtin "dict.__getitem__")):=PySem.slot_dict_getitem.lookup
theorem Ibg {i:Expr}(he:Ev C k fr m σ e (.loc n) z1)(hi:Ev C k fr m z1 i (.str x) z')(hn:z'[n]?=some (.dstr ks vs))(hx:qdq ks vs x=some v)(hs:autoParam (∀o w,FB i false o w=operate [o,w] (GU o w)) ap0._auto_1):Ev C k fr m σ (.Subscript e i p) v z':=fun A env g s rm R F Q E hQ=>by
  refine PyProof.Rows.Subscript_ (he A env g s rm R F _ _ fun va g1 s1a R1 e1a ra=>hi A env g1 s1a rm R1 (F.up e1a) _ _ fun vi g2 s2 R2 e2a rx=>?_);obtain ⟨t,rfl⟩:=rx;refine qa5 (ra.up e2a) ?_;intro a eq_9_1 hg;subst eq_9_1;refine qde (R2.locs n _ hn) ?_;intro a' hg' us hm hl hr;have:a'=a:=R2.uniq _ _ _ hg' hg;subst this;refine qa5 ((qcv (x:=x) (ks:=ks) hr).1 v hx) ?_;intro u hu ru;refine FQ hm.typeIs qj2 (wpAny_getItem_of (knd:=PySem.strKind C.W.prog C.W.w) (k:=x) (by simp[PySem.strKind,Value.isStrOf]) hm.mapOf hu ?_) (hs _ _);exact hQ _ g2 _ (R2.tok _) (e1a.trans e2a) ru
theorem Idp {i:Expr}{ks:List Int}{x:Int}(he:Ev C k fr m σ e (.loc n) z1)(hi:Ev C k fr m z1 i (.int x) z')(hn:z'[n]?=some (.dint ks vs))(hx:qdq ks vs x=some v)(hs:autoParam (∀o w,FB i false o w=operate [o,w] (GU o w)) ap0._auto_1):Ev C k fr m σ (.Subscript e i p) v z':=fun A env g s rm R F Q E hQ=>by
  refine PyProof.Rows.Subscript_ (he A env g s rm R F _ _ fun va g1 s1a R1 e1a ra=>hi A env g1 s1a rm R1 (F.up e1a) _ _ fun vi g2 s2 R2 e2a rx=>?_);obtain ⟨t,rfl⟩:=rx;refine qa5 (ra.up e2a) ?_;intro a eq_13_1 hg;subst eq_13_1;refine qde (R2.locs n _ hn) ?_;intro a' hg' us hm hl hr;have:a'=a:=R2.uniq _ _ _ hg' hg;subst this;refine qa5 ((qcv (x:=x) (ks:=ks) hr).1 v hx) ?_;intro u hu ru;refine FQ hm.typeIs qj2 (wpAny_getItem_of (knd:=PySem.intKind C.W.prog C.W.w) (k:=x) (by simp[PySem.intKind,Value.isInt]) hm.mapOf hu ?_) (hs _ _);exact hQ _ g2 _ (R2.tok _) (e1a.trans e2a) ru
noncomputable def qfm {K:Type} [DecidableEq K] (ks:List K) (vs:List AV) (x:K) (v:AV):List K×List AV:=if x∈ks then (ks,(ks.zip vs).map fun kv=>if kv.1=x then v else kv.2) else (ks++[x],vs++[v])
theorem qen {K:Type}[DecidableEq K]{x:K}{u:Value}{ks:List K}{us:List Value}(hl:ks.length=us.length)(hr:RVs W g h vs us)(ru:RV W g h v u):
    ∃us',GR (ks.zip us) x u=(qfm ks vs x v).1.zip us'/\(qfm ks vs x v).1.length=us'.length/\RVs W g h (qfm ks vs x v).2 us':=by
  unfold GR qfm;by_cases hx:x∈ks
  . have hany:((ks.zip us).any fun kv=>decide (kv.1=x))=true:=by
      obtain ⟨i,hi,e⟩:=C9.mp hx;refine EI.mpr ⟨(ks[i],us[i]'(by lia)),?_,by simp[e]⟩;exact C9.mpr ⟨i,by simp;lia,by simp⟩
    rw[if_pos hany,if_pos hx];have key:∀(ks:List K) (vs:List AV) (us:List Value),ks.length=us.length->RVs W g h vs us->(ks.zip us).map (fun kv=>if kv.1=x then (kv.1,u) else kv)=ks.zip ((ks.zip us).map fun kv=>if kv.1=x then u else kv.2) /\
        RVs W g h ((ks.zip vs).map fun kv=>if kv.1=x then v else kv.2) ((ks.zip us).map fun kv=>if kv.1=x then u else kv.2):=by
      intro ks;induction ks with
      | nil=>intro vs us _ _;exact ⟨rfl,rfl⟩
      | cons y ks ih=>
        intro vs us hl r;cases us with
        | nil=>simp at hl
        | cons w us=>
          cases vs with
          | nil=>cases (r:w::us=[])
          | cons a vs=>
            refine qa1 (r) ?_;intro w' us' e r1 r2;injection e with e1 e2
            subst e1 e2;obtain ⟨i1,i2⟩:=ih vs us (by simpa using hl) r2;constructor
            . simp only[A9,Bz];rw[<- i1];by_cases hy:y=x <;> simp[hy]
            . simp only[A9,Bz];refine ⟨_,_,rfl,?_,i2⟩;by_cases hy:y=x
              . simp only[hy,if_true];exact ru
              . simp only[hy,if_false];exact r1
    obtain ⟨k1,k2⟩:=key ks vs us hl hr;exact ⟨_,k1,by simp[hl],k2⟩
  . have hany:((ks.zip us).any fun kv=>decide (kv.1=x))=false:=by
      rw[Bool.eq_false_iff];intro q;refine qa5 (EI.mp q) ?_;intro ne_20_0 hm e;obtain ⟨y,w⟩:=ne_20_0;have:=(Gp hm).1;simp at e;exact hx (e ▸ this)
    rw[if_neg (by rw[hany];simp),if_neg hx];refine ⟨us++[u],?_,by simp[hl],hr.append ⟨u,[],rfl,ru,rfl⟩⟩;rw[List.zip_append hl];rfl
theorem qes {K:Type}[DecidableEq K]{x:K}(hv:plain v=true):∀{ks:List K} {vs:List AV},plains vs=true->plains (qfm ks vs x v).2=true:=by
  intro ks vs h;unfold qfm;split
  . have key:∀(ks:List K) (vs:List AV),plains vs=true->plains ((ks.zip vs).map fun kv=>if kv.1=x then v else kv.2)=true:=by
      intro ks;induction ks with
      | nil=>intro vs _;rfl
      | cons y ks ih=>
        intro vs h;cases vs with
        | nil=>rfl
        | cons a vs=>
          have h':(plain a&&plains vs)=true:=h;rw[AG] at h';simp only[A9,Bz];show (plain (if y=x then v else a)&&plains _)=true;rw[ih vs h'.2];by_cases hy:y=x
          . rw[if_pos hy,hv];rfl
          . rw[if_neg hy,h'.1];rfl
    exact key ks vs h
  . rw[qal,h];show (true&&(plain v&&true))=true;rw[hv];rfl
theorem Rep.updDict (R:Rep W fr g σ s){ao':AObj}(tk:Nat)(hn:σ[n]?=some ao)(hg:g a=.loc n)(hs:AQ a s.heap h')(ha:∃o,h'.get? a=some o)(hp:qdb ao'=true)(hr:Evo W noX (·=n) g s.heap g h'->RO W g h' a n ao'):Rep W fr g (σ.set n ao') { s with heap:=h',toks:=tk }/\Evo W noX (·=n) g s.heap g h':=by
  have hk:∀b o,s.heap.get? b=some o->g b≠.loc n->g b≠.aux n->h'.get? b=some o:=fun b o q h1 _=>(hs.2 b fun e=>h1 (e ▸ hg)).trans q
  have e:=Evo.setLoc (g':=g) R (n:=n) (fun _ _ _=>rfl) hk;refine ⟨R.setLoc (ao':=ao') tk hn (fun _ _ _=>rfl) (fun b hb=>.inl (R.newO hb)) hk (fun b o q _=>?_) hp (fun b hb=>?_),e⟩
  . by_cases hb:b=a
    . subst hb;exact ha
    . exact ⟨o,(hs.2 b hb).trans q⟩
  . have:b=a:=R.uniq _ _ _ hb hg;subst this;exact hr e
theorem qos {o i:Expr}{v:Value}{Q:Unit->Al->Prop}(h:wpAny M A (eval o env) (fun ov s1a=>wpAny M A (eval i env) (fun iv s2=>wpAny M A (setItem ov iv v) Q E s2) E s1a) E s):
    wpAny M A (PySem.assign (.Subscript o i p) env v) Q E s:=by
  rw[arm_assign_Subscript];refine Aa (AK (AB h (fun ov s1a h1a=>Aa (AK (AB h1a (fun iv s2 h2a=>?_) fun _ _ e=>e))) fun _ _ e=>e));exact Aa (AP (Aa (AK (AB h2a (fun _ s3 h3=>wpAny_release h3) fun _ _ e=>e))))
theorem Iec {o i:Expr}(he:Ev C k fr m σ o (.loc n) z1)(hi:Ev C k fr m z1 i (.str x) z2)(hn:z2[n]?=some (.dstr ks vs))(hY:C.Y n)(hp:plain v=true)(hz:autoParam (ks.length<=Ai) ap2._auto_1):
    As C k fr m σ (.Subscript o i p) v m (z2.set n (.dstr (qfm ks vs x v).1 (qfm ks vs x v).2)):=fun A env g s u rm R F ru Q E hQ=>by
  refine qos (he A env g s rm R F _ _ fun va g1 s1a R1 e1a ra=>hi A env g1 s1a rm R1 (F.up e1a) _ _ fun vi g2 s2 R2 e2a rx=>?_);obtain ⟨t,rfl⟩:=rx;refine qa5 (ra.up e2a) ?_;intro a eq_22_1 hg;subst eq_22_1;refine qde (R2.locs n _ hn) ?_;intro a' hg' us hm hl hr;have:a'=a:=R2.uniq _ _ _ hg' hg;subst this;refine wpAny_setItem_pairs (knd:=PySem.strKind C.W.prog C.W.w) (k:=x) (by simp[PySem.strKind,Value.isStrOf]) hm (fun h' hm' hs=>?_) (by rw[CD];simp_all);have hm2:=hm';refine qbw (hm2) ?_;intro o' _ _ ho' _;obtain ⟨R3,e3a⟩:=R2.updDict (ao':=.dstr (qfm ks vs x v).1 (qfm ks vs x v).2) (s2.toks+1) hn hg hs ⟨o',ho'⟩ (qes hp (R2.pl n _ hn)) (fun e=>by
    refine qaj (qen (x:=x) hl (hr.up e) ((ru.up (e1a.trans e2a)).up e)) ?_;intro us' h1 h2 h3;exact ⟨us',by rw[<- h1];exact hm',h2,h3⟩)
  have e:=(e1a.trans e2a).trans (e3a.toN hY);exact hQ g2 _ R3 e.toX (F.up e)
theorem Ied {o i:Expr}{ks:List Int}{x:Int}(he:Ev C k fr m σ o (.loc n) z1)(hi:Ev C k fr m z1 i (.int x) z2)(hn:z2[n]?=some (.dint ks vs))(hY:C.Y n)(hp:plain v=true)(hz:ks.length<=Ai):
    As C k fr m σ (.Subscript o i p) v m (z2.set n (.dint (qfm ks vs x v).1 (qfm ks vs x v).2)):=fun A env g s u rm R F ru Q E hQ=>by
  refine qos (he A env g s rm R F _ _ fun va g1 s1a R1 e1a ra=>hi A env g1 s1a rm R1 (F.up e1a) _ _ fun vi g2 s2 R2 e2a rx=>?_);obtain ⟨t,rfl⟩:=rx;refine qa5 (ra.up e2a) ?_;intro a eq_27_1 hg;subst eq_27_1;refine qde (R2.locs n _ hn) ?_;intro a' hg' us hm hl hr;have:a'=a:=R2.uniq _ _ _ hg' hg;subst this;refine wpAny_setItem_pairs (knd:=PySem.intKind C.W.prog C.W.w) (k:=x) (by simp[PySem.intKind,Value.isInt]) hm (fun h' hm' hs=>?_) (by rw[CD];simp_all);have hm2:=hm';refine qbw (hm2) ?_;intro o' _ _ ho' _;obtain ⟨R3,e3a⟩:=R2.updDict (ao':=.dint (qfm ks vs x v).1 (qfm ks vs x v).2) (s2.toks+1) hn hg hs ⟨o',ho'⟩ (qes hp (R2.pl n _ hn)) (fun e=>by
    refine qaj (qen (x:=x) hl (hr.up e) ((ru.up (e1a.trans e2a)).up e)) ?_;intro us' h1 h2 h3;exact ⟨us',by rw[<- h1];exact hm',h2,h3⟩)
  have e:=(e1a.trans e2a).trans (e3a.toN hY);exact hQ g2 _ R3 e.toX (F.up e)
end
end
section
open PySem.Builtin PySem.Builtin.Str
section
noncomputable abbrev qb9 (ss:List PySem.Str):List AV:=ss.map .str
theorem RVs.strs:∀{ss:List PySem.Str} {vs:List Value},RVs W g h (qb9 ss) vs->StrsAre vs ss
  | [],vs,r=>by obtain rfl:vs=[]:=r;exact .nil
  | x::ss,vs,r=>by refine qa1 (r) ?_;intro v q eq_0_2 ne_0_3 r2;subst eq_0_2;obtain ⟨t,rfl⟩:=ne_0_3;exact .cons x t (RVs.strs r2)
theorem Ic5:∀(l:List (PySem.Str×Tok)),RVs W g h (qb9 (l.map (·.1))) (strValues l)
  | []=>rfl
  | (x,t)::l=>⟨.str x t,strValues l,rfl,⟨t,rfl⟩,Ic5 l⟩
theorem Ibx {i:Int}(hz:(DY "0x" 16 i).length<=Ai):Calls W Y k fr σ (.glob (.builtin "hex")) [.int i] [] [] (.str (DY "0x" 16 i)) σ:=fun A g s vf us ks rm R rf ru rk Q E hQ=>by
  obtain rfl:vf=.builtin "hex":=rf;refine qa1 (ru) ?_;intro u q eq_1_2 ne_1_3 q';subst eq_1_2;obtain ⟨t,rfl⟩:=ne_1_3;obtain rfl:q=[]:=q';exact P.hex_of_int (hQ _ g _ (R.tok _) Evo.refl ⟨_,rfl⟩) hz
theorem Calls.join {x:PySem.Str}{ss:List PySem.Str}(hL:Lv σ v (qb9 ss))(hok:(ss.map (·.length)).sum+ss.length*x.length<=16777216):Calls W Y k fr σ (.glob (.builtin "str.join")) [.str x,v] [] [] (.str (DN x ss)) σ:=fun A g s vf us ks rm R rf ru rk Q E hQ=>by
  obtain rfl:vf=.builtin "str.join":=rf;refine qa1 (ru) ?_;intro u q eq_2_2 ne_2_3 q';subst eq_2_2;obtain ⟨t,rfl⟩:=ne_2_3;refine qa1 (q') ?_;(try clear q');intro u2 q2 eq_3_2 r2 q';subst eq_3_2;obtain rfl:q2=[]:=q';refine qa2 (hL.at R r2) ?_;intro a vs m eq_4_3 ho hr _;subst eq_4_3;exact join_list (qav ho) hr.strs hok fun t' tk=>hQ _ g _ (R.tok _) Evo.refl ⟨t',rfl⟩
theorem Id7 {x:PySem.Str}{ss:List PySem.Str}(hss:Txt.words x=ss)(hsz:x.length<=Ai)(hsz2:(spaceWords x (x.length+1)).length<=Ai):Calls W Y k fr σ (.glob (.builtin "str.split")) [.str x] [] [] (.lst (qb9 ss)) σ:=fun A g s vf us ks rm R rf ru rk Q E hQ=>by
  obtain rfl:vf=.builtin "str.split":=rf;refine qa1 (ru) ?_;intro u q eq_5_2 ne_5_3 q';subst eq_5_2;obtain ⟨t,rfl⟩:=ne_5_3;obtain rfl:q=[]:=q';have fin:∀(l:List (PySem.Str×Tok)) (tk:Nat),l.map (·.1)=ss->Q (.ref s.heap.objs.size) { s with heap:=s.heap.push (qaa (strValues l).toArray 0),toks:=tk }:=fun l tk hl=>by
    obtain ⟨R2,e2a⟩:=R.newFz (qaa (strValues l).toArray 0);refine hQ _ _ _ (R2.tok tk) e2a.no ⟨_,_,_,rfl,qa4,Ar _ rfl,?_⟩;rw[<- hl];exact Ic5 l
  refine Gc PySem.F.slot_str_split (typeIs_str _ _ _) PySem.F.entry_str_split (PySem.F.args_str_split_1 _) (meets_str_split_space x t hsz hsz2) ?_;cases hw:spaceWords x (x.length+1)==[(0,x.length)]
  . simp only[AY,if_false];rw[strsFrom_eq];exact fin (numbered s.toks (PySem.wordsOf x)) _ (((numbered_texts _ _).trans (if_neg (ne_true_of_eq_false hw)).symm).trans hss)
  . simp only[if_true];exact fin [(x,t)] _ (((if_pos hw).symm:[x]=Txt.words x).trans hss)
theorem MethOk.str {x:PySem.Str}{n:PySem.Str}{id:String}(slot:Slot "str" n id)(hty:typeOf (.builtin id)=pure (.type "method_descriptor")):MethOk W fr σ (.str x) n (.glob (.builtin id)) [.str x]:=fun A g s va pl Q E R ra hQ=>by
  obtain ⟨t,rfl⟩:=ra;exact FC (typeIs_str _ _ _) PySem.F.plainAttrs_str slot hty (fun a e=>by cases e) (hQ _ _ s R rfl rfl ⟨_,[],rfl,⟨t,rfl⟩,rfl⟩)
structure qja (W:Wd) (a:Addr) (kvs:List (Int×PySem.Str)):Prop where
  nt:¬W.tab a
  ns:(a==Cp)=false
  at_:∃us,W.s1.heap.DictOf (PySem.intKind W.prog W.w) a ((kvs.map (·.1)).zip us)/\StrsAre us (kvs.map (·.2))
theorem MethOk.tab {kvs:List (Int×PySem.Str)}(T:qja W a kvs):MethOk W fr σ (.glob (.ref a)) "get" (.glob (.builtin "dict.get")) [.glob (.ref a)]:=fun A g s va pl Q E R ra hQ=>by
  obtain rfl:va=.ref a:=ra;refine qa5 (T.at_) ?_;intro us hm _;have hm':s.heap.DictOf (PySem.intKind W.prog W.w) a ((kvs.map (·.1)).zip us):=by
    rw[Ci] at hm ⊢;refine qa5 (hm) ?_;intro o ho q;exact ⟨o,R.base a o ho T.nt,q⟩
  exact FC hm'.typeIs PySem.F.plainAttrs_dict PySem.F.slot_dict_get PySem.F.type_dict_get (fun b e=>by
    cases e
    refine qar (hm') ?_;intro o es ep ho hx _;exact ⟨o,ho,hx.2.1⟩) (hQ _ _ s R rfl rfl ⟨_,[],rfl,rfl,rfl⟩)
theorem qmj:∀{ks:List Int} {us:List Value} {ss:List PySem.Str} {x:Int},ks.length=ss.length->StrsAre us ss->(∀y,(ks.zip ss).lookup x=some y->∃t,GY (ks.zip us) x=some (.str y t))/\((ks.zip ss).lookup x=none->GY (ks.zip us) x=none)
  | [],_,_,x,_,_=>⟨fun y q=>by simp at q,fun _=>rfl⟩
  | c::ks,_,[],x,hl,_=>by simp at hl
  | c::ks,us,y::ss,x,hl,r=>by
    cases r with
    | cons _ t r=>
      rename_i us;obtain ⟨i1,i2⟩:=qmj (ks:=ks) (x:=x) (by simpa using hl) r;unfold GY at *;rw[A9,A9,AU,Go];by_cases hc:c=x
      . subst hc;simp only[beq_self_eq_true,decide_true];exact ⟨fun y' e=>by obtain rfl:=Sj e;exact ⟨t,rfl⟩,fun e=>by cases e⟩
      . have:(x==c)=false:=by simp;exact fun q=>hc q.symm
        rw[this];simp only[hc,decide_false];exact ⟨i1,i2⟩
theorem Calls.get {kvs:List (Int×PySem.Str)}{x:Int}{d:PySem.Str}(T:qja W a kvs):Calls W Y k fr σ (.glob (.builtin "dict.get")) [.glob (.ref a),.int x,.str d] [] [] (.str ((((kvs.map (·.1)).zip (kvs.map (·.2))).lookup x).getD d)) σ:=fun A g s vf us ks rm R rf ru rk Q E hQ=>by
  obtain rfl:vf=.builtin "dict.get":=rf;refine qa1 (ru) ?_;intro u q eq_15_2 r1 q';subst eq_15_2;obtain rfl:u=.ref a:=r1;refine qa1 (q') ?_;(try clear q');intro u2 q2 eq_16_2 ne_16_3 q';subst eq_16_2;obtain ⟨t,rfl⟩:=ne_16_3;refine qa1 (q') ?_;(try clear q');intro u3 q3 eq_17_2 ne_17_3 q';subst eq_17_2;obtain ⟨t',rfl⟩:=ne_17_3;obtain rfl:q3=[]:=q';refine qa5 (T.at_) ?_;intro us hm hs;have hm':s.heap.DictOf (PySem.intKind W.prog W.w) a ((kvs.map (·.1)).zip us):=by
    rw[Ci] at hm ⊢;refine qa5 (hm) ?_;intro o ho q;exact ⟨o,R.base a o ho T.nt,q⟩
  have hh:GA table "dict.get"=some AA.«dict.get»:=PySem.F.entry_dict_get;refine EJ (Cz PySem.F.slot_dict_get.plain hh (PySem.F.slot_dict_get.check _ _ _ _ _ _ _ _ hm'.typeIs (PySem.F.args_dict_get_3 _ _ _) ?_));refine meets_dict_get_default (PySem.intKind W.prog W.w) a (k:=x) (key:=.int x t) (by simp[PySem.intKind,Value.isInt]) T.ns (.str d t') A (fun r s'=>match r with | .ok (.ret v)=>Q v s' | .ok _=>False | .error e=>E e s') s ⟨_,hm'.mapOf,?_⟩;obtain ⟨i1,i2⟩:=qmj (ks:=kvs.map (·.1)) (ss:=kvs.map (·.2)) (x:=x) (by simp) hs;show Q _ _;refine hQ _ g _ (R.tok _) Evo.refl ?_;cases hq:((kvs.map (·.1)).zip (kvs.map (·.2))).lookup x with
  | none=>rw[i2 hq];exact ⟨t',rfl⟩
  | some y=>obtain ⟨t2,e⟩:=i1 y hq;rw[e];exact ⟨t2,rfl⟩
theorem Icd {ks:List PySem.Str}(hn:σ[n]?=some (.dstr ks vs)):Calls W Y k fr σ (.glob (.builtin "hasattr")) [.loc n,.str "tag"] [] [] (.bool false) σ:=fun A g s vf us ks' rm R rf ru rk Q E hQ=>by
  obtain rfl:vf=.builtin "hasattr":=rf;refine qa1 (ru) ?_;intro v1 q1 eq_22_2 r1 q;subst eq_22_2;refine qa1 (q) ?_;(try clear q);intro v2 q2 eq_23_2 ne_23_3 q;subst eq_23_2;obtain ⟨t,rfl⟩:=ne_23_3;obtain rfl:q2=[]:=q;refine qa5 (r1) ?_;intro a eq_24_1 hg;subst eq_24_1;refine qde (R.locs n _ hn) ?_;intro a' hg' us hm hl hr;have:a'=a:=R.uniq _ _ _ hg' hg;subst this;refine qa2 (hm) ?_;intro ne_26_0 es ep ho ne_26_4 hd _;obtain ⟨c,dct,dat,sl⟩:=ne_26_0;obtain ⟨h1,h2,h3⟩:=ne_26_4;simp only at h1 h2 h3 hd;subst h1 h2 h3 hd;refine qcd ho rfl qgd qgy (qk4 rm.handled ho qgy (by decide) (fun h' tk e hx'=>?_) (by decide));obtain ⟨R',e'⟩:=qjm R hx' tk;exact ⟨e,rfl,(by refine qa1 (hx'.there) ?_;intro ob _ q1 q2 _;exact ⟨ob,q1,q2⟩),hQ _ g _ R' e'.no rfl⟩
theorem Ic0 {ks ks':List PySem.Str}{vs':List AV}(hn:σ[n]?=some (.dstr ks vs))(hn':σ[n']?=some (.dstr ks' vs'))(hl:ks.length=ks'.length)(hlv:ks.length=vs.length)(hd:∀v∈vs,isD v=true/\(toP v).depth<=64)(hsub:∀(i:Nat) (x:PySem.Str) (v:AV),ks[i]?=some x->vs[i]?=some v->qdq ks' vs' x=some v):Op2 W Y k fr σ (CM .Eq) (.loc n) (.loc n') (.bool true) σ:=fun A g s va vb rm R ra rb Q E hQ=>by
  refine qa5 (ra) ?_;intro a eq_29_1 hg;subst eq_29_1;refine qa5 (rb) ?_;intro b eq_30_1 hg2;subst eq_30_1;refine qde (R.locs n _ hn) ?_;intro a' hga us hm hl1 hr;have:a'=a:=R.uniq _ _ _ hga hg;subst this;refine qde (R.locs n' _ hn') ?_;intro b' hgb us' hm' hl2 hr';have:b'=b:=R.uniq _ _ _ hgb hg2;subst this;have hu:A.units<cLine:=rm.line;have hu2:A.in1.units+64<cLine:=by have h1:=rm.units;have h3:cLine=9900:=rfl;show A.units+1+64<cLine;lia
  have hits:∀(l1:List PySem.Str) (l2:List AV) (l3:List Value),l1.length=l2.length->RVs W g s.heap l2 l3->(∀v∈l2,isD v=true/\(toP v).depth<=64)->(∀(i:Nat) (x:PySem.Str) (v:AV),l1[i]?=some x->l2[i]?=some v->qdq ks' vs' x=some v)->KeqHits A.in1 s (ks'.zip us') (l1.zip l3) true:=by
    intro l1;induction l1 with
    | nil=>intro l2 l3 _ _ _ _;exact .nil
    | cons x l1 ih=>
      intro l2 l3 e1 r hd hs;cases l2 with
      | nil=>simp at e1
      | cons v l2=>
        refine qa1 (r) ?_;intro w q eq_33_2 r1 r2;subst eq_33_2;refine qa5 ((qcv (x:=x) (ks:=ks') hr').1 v (hs 0 x v rfl rfl)) ?_;intro w' hw' rw';refine AD ?_ (hd v Am);intro h1 h2;refine Aq (r1.reads v h1 _) ?_;intro as ra;refine Aq (rw'.reads v h1 _) ?_;intro bs rb;have hsh:Gb (toP v)=true:=by unfold Gb;rw[qhw v h1,Bool.true_and];exact decide_eq_true h2
        have heq:=keq_at (A:=A) ra rb hsh hsh hu2;rw[(qpv v v h1 h1).mpr rfl] at heq;exact KeqHits.hit (e:=true) (b:=true) hw' heq (ih l2 q (by simpa using e1) r2 (fun u hu=>hd u (Az _ hu)) fun i y u h3 h4=>hs (i+1) y u (by simpa using h3) (by simpa using h4))
  refine keq_eq (knd:=PySem.strKind W.prog W.w) (qev R hg) (qev R hg2) hm hm' hu (fun _=>hits ks vs us hlv hr hd hsub) ?_;have:((ks.zip us).length==(ks'.zip us').length&&true)=true:=by simp[CD,<- hl1,<- hl2,hl]
  rw[this];exact hQ _ g s R Evo.refl rfl
end
end
section
structure LamIn (C:Cx) (c P:Addr):Prop where
  cd:C.cd=.ref c
  hd:Gd C.W.s1.heap c P
  nc:¬C.W.tab c
  tab:C.W.tab P
  blt:C.W.s1.heap.BuiltinsAt C.W.mg P
  bm:∀bm,C.W.mg "__builtins__"=some (.ref bm)->¬C.W.tab bm
theorem qht {a b:Int}{c v:Value}:∀{l:List Value},TriplesOk l->EF pos (l++[Dj a,Dj b,c])=some v->EF pos l=some v\/v=c:=by
  intro l h
  fun_induction TriplesOk l with
  | case1=>
    intro q;simp only[CX,Dj,EF] at q;split at q
    . obtain rfl:=Sj q;exact .inr rfl
    . cases q
  | case2 x t y u z rest ih=>
    intro q;simp only[FV,EF] at q ⊢;split at q
    . rename_i hc;rw[if_pos hc];obtain rfl:=Sj q;exact .inl rfl
    . rename_i hc;rw[if_neg hc];exact ih h q
  | case3=>exact absurd h (by simp)
section
theorem Rep.tabUp (R:Rep W fr g σ s)(tk:Nat)(hP:W.tab P)(hk:∀b o,s.heap.get? b=some o->b≠P->h'.get? b=some o)(hT:qqs W g h' P):
    Rep W fr g σ { s with heap:=h',toks:=tk }/\Evo W noX noY g s.heap g h':=by
  have hPo:=R.tabO P hP;have hne:∀{b},g b≠.other->b≠P:=fun q e=>q (e ▸ hPo)
  have hkt:∀{b o},s.heap.get? b=some o->∃o',h'.get? b=some o':=fun {b o} ho=>by
    by_cases hb:b=P
    . subst hb;refine qa5 (hT) ?_;intro more h1 _;exact ⟨_,h1⟩
    . exact ⟨o,hk b o ho hb⟩
  have e:Evo W noX noY g s.heap g h':=⟨fun b o ho _ hq=>.of (hk b o ho (by
      rcases hq with q | ⟨_,q⟩
      . exact hne (by rw[q];exact nofun)
      . exact fun e=>q (e ▸ hP))),fun b o n ho hq _=>hk b o ho (hne (by rcases hq with q | q <;> rw[q] <;> exact nofun)),fun _ q _=>q,fun _ _ q=>q,fun _ _ q=>q,fun _ _ _ q _=>.inl q,fun b o _ ho=>hkt ho⟩
  refine ⟨⟨fun b o ho ht=>hk b o (R.base b o ho ht) (fun q=>ht (q ▸ hP)),R.baseO,R.tabO,fun b ht=>?_,fun b hb=>?_,fun n ao ho=>?_,R.uniq,R.pl,R.bnd,fun en he=>?_,R.gens,R.os⟩,e⟩
  . by_cases hb:b=P
    . subst hb;exact hT
    . refine qaj (R.tabs b ht) ?_;intro more h2 h3 h4;exact ⟨more,hk b _ h2 hb,h3,fun pos v q=>(h4 pos v q).mono e XOk.no⟩
  . refine Aq (R.low b hb) ?_;intro o ho;exact ⟨o,hk b o ho (hne hb)⟩
  . refine qa5 (R.locs n ao ho) ?_;intro b hg hr;exact ⟨b,hg,hr.mono e XOk.no (fun o q=>hk b o q (hne (by rw[hg];exact nofun))) (fun d hd o q=>hk d o q (hne (by rw[hd];exact nofun))) ao (R.pl n ao ho)⟩
  . refine qah (R.frs en he) ?_;intro f o es ep h1 h2 h3 h4 h5;refine ⟨f,o,es,ep,h1,hk f o h2 (fun q=>?_),h3,h4,h5⟩;subst q;refine qa5 (R.tabs f hP) ?_;intro more h5 _;rw[h2] at h5;obtain rfl:=Sj h5;cases h3
open Classical in
noncomputable def capt (g:Addr->Own) (K:Addr->Prop):Addr->Own:=fun a=>if K a then .fz else g a
theorem qhv {K:Addr->Prop}(h:K a):capt g K a=.fz:=if_pos h
theorem qc1 {K:Addr->Prop}(h:¬K a):capt g K a=g a:=if_neg h
theorem Rep.capt (R:Rep W fr g σ s){K:Addr->Prop}(hK:∀a,K a->W.s1.heap.get? a=none/\(g a=.other\/g a=.fz)/\∃v,s.heap.get? a=some (qay v)):
    Rep W fr (capt g K) σ s/\Evo W noX noY g s.heap (capt g K) s.heap:=by
  have hl:∀a n,(g a=.loc n\/g a=.aux n)->¬K a:=fun a n hq hk=>by
    rcases (hK a hk).2.1 with q | q <;> rcases hq with r | r <;> (rw[q] at r;cases r)
  have hinv:∀a o,Mine.capt g K a=o->o≠.fz->g a=o:=fun a o q hne=>by
    by_cases hk:K a
    . rw[qhv hk] at q;exact absurd q.symm hne
    . rw[qc1 hk] at q;exact q
  have hbase:∀{a o},W.s1.heap.get? a=some o->¬K a:=fun ho hk=>by rw[(hK _ hk).1] at ho;cases ho
  have e:Evo W noX noY g s.heap (Mine.capt g K) s.heap:=⟨fun _ _ h _ _=>.of h,fun _ _ _ h _ _=>h,fun a q _=>by
      by_cases hk:K a
      . exact qhv hk
      . rw[qc1 hk];exact q,fun a n q=>by rw[qc1 (hl a n (.inl q))];exact q,fun a n q=>by rw[qc1 (hl a n (.inr q))];exact q,fun a o ho q _=>by
      by_cases hk:K a
      . exact .inr ⟨qhv hk,(hK a hk).2.2⟩
      . exact .inl (by rw[qc1 hk];exact q),fun a o _ ho=>⟨o,ho⟩⟩
  refine ⟨⟨R.base,fun a o ho=>by rw[qc1 (hbase ho)];exact R.baseO a o ho,fun a ht=>by rw[qc1 (hbase (W.tabEx a ht))];exact R.tabO a ht,fun a ht=>?_,fun a ha=>?_,fun n ao ho=>?_,
    fun a b n ha hb=>R.uniq a b n (hinv a _ ha nofun) (hinv b _ hb nofun),R.pl,fun a n q=>R.bnd a n (q.imp (fun q=>hinv a _ q nofun) fun q=>hinv a _ q nofun),fun en he=>?_,R.gens,R.os⟩,e⟩
  . refine qaj (R.tabs a ht) ?_;intro more h2 h3 h4;exact ⟨more,h2,h3,fun pos v q=>(h4 pos v q).mono e XOk.no⟩
  . by_cases hk:K a
    . refine Aq ((hK a hk).2.2) ?_;intro v hv;exact ⟨_,hv⟩
    . rw[qc1 hk] at ha;exact R.low a ha
  . refine qa5 (R.locs n ao ho) ?_;intro a qa hr;exact ⟨a,e.loc a n qa,hr.mono e XOk.no (fun _ q=>q) (fun _ _ _ q=>q) ao (R.pl n ao ho)⟩
  . refine qah (R.frs en he) ?_;intro f o es ep h1 h2 h3 h4 h5;refine ⟨f,o,es,ep,h1,h2,h3,?_,h5⟩;rw[qc1 fun hk=>?_]
    . exact h4
    . refine Aq ((hK f hk).2.2) ?_;intro v hv;rw[h2] at hv;obtain rfl:=Sj hv;cases h3
end
section
noncomputable abbrev qpk (name qual:Str) (params:EE) (body:Expr) (scope:Scope) (cl:List (Str×Addr)) (pm cdv ct:Value):BS:=
  { name,qualname:=qual,params,body:=.expr body,scope,globals:=Bk,closure:=cl,defaults:=.none,kwdefaults:=.none,doc:=.none,pyModule:=pm,annotations:=none,code:=cdv,closureTuple:=ct,builtins:=Bm }
theorem qr9 {name qual:Str}{params:EE}{body:FuncBody}{fl:Nat}:makeFunction name qual params body scope env [] [] [] pos fl=makeTail name qual params body scope env .none .none none pos fl:=by
  rw[makeFunction_eq];simp only[List.zip_nil_right,List.filterMap_nil,List.isEmpty_nil,if_true,pure_bind]
theorem Gd.at (x:Gd h c P)(e:h'.get? c=h.get? c):Gd h' c P:=by unfold Gd;rw[e];exact x
section
theorem LamIn.hdAt (L:LamIn C c P)(R:Rep C.W fr g σ s):Gd s.heap c P:=by
  refine Aq (L.hd.tab (C.W.tabEx P L.tab)).1 ?_;intro o h;refine Aq h ?_;intro vs h;exact Gd.at L.hd ((R.base c o h.1 L.nc).trans h.1.symm)
theorem LamIn.bltAt (L:LamIn C c P)(R:Rep C.W fr g σ s):s.heap.BuiltinsAt C.W.mg P:=by
  refine Aq L.blt ?_;intro bm h;refine Aq h ?_;intro ob h;exact ⟨bm,ob,h.1,h.2.1,h.2.2.1,h.2.2.2.1,R.base bm ob h.2.2.2.2.1 (L.bm bm h.1),h.2.2.2.2.2⟩
theorem qkz {qual:Str}{more:Array Value}(hT:C.W.tab P)(ht:TriplesOk more.toList)(hcodes:∀pos v,EF pos more.toList=some v->CodeOk C.W g s.heap v)(R:Rep C.W fr g σ s)(tk:Nat)(c':Addr)(hx:Heap.ExtBut P s.heap h')(hge:s.heap.objs.size<=c')(hrec:h'.CodeRec (.ref c') qual)(htab:h'.get? P=some (Em (more++#[Dj p.line,Dj p.col,.ref c'])))(htc:∃P',s.heap.objs.size<=P'/\h'.IsCode c' P' #[]/\h'.TableAt c' P' #[]):
    Rep C.W fr g σ { s with heap:=h',toks:=tk }/\Evo C.W noX noY g s.heap g h'/\CodeOk C.W g h' (.ref c'):=by
  have hnone:s.heap.get? c'=none:=Cw hge;have hok:CodeOk C.W g h' (.ref c'):=by
    obtain ⟨c2,o,vs,t,e1,e2,e3,e4⟩:=hrec;obtain rfl:c'=c2:=Value.ref.inj e1;refine Aq htc ?_;intro P' q;refine qa1 q.2.2.1 ?_;intro o2 vs2 f1 f2 f3;obtain rfl:=Sj (e2.symm.trans f1);exact ⟨c',o,vs,qual,t,rfl,R.newO hnone,Ib1 (R.new1 hnone),e2,f2,e3,e4⟩
  have hO:=R.tabO _ hT;have hk:∀b o,s.heap.get? b=some o->b≠P->h'.get? b=some o:=fun b o ho hb=>hx b o hb ho
  have htl:(more++#[Dj p.line,Dj p.col,Value.ref c']).toList=more.toList++[Dj p.line,Dj p.col,.ref c']:=by simp
  have e0:Evo C.W noX noY g s.heap g h':=⟨fun b o ho _ hq=>.of (hx b o (fun q=>by
      subst q;rcases hq with q | ⟨_,q⟩
      . exact nomatch hO.symm.trans q
      . exact q hT) ho),fun b o n ho hq _=>hx b o (fun q=>by subst q;rw[hO] at hq;exact hq.elim (fun q=>nomatch q) fun q=>nomatch q) ho,fun _ q _=>q,fun _ _ q=>q,fun _ _ q=>q,fun _ _ _ q _=>.inl q,fun b o _ ho=>by
    by_cases hb:b=P
    . subst hb;exact ⟨_,htab⟩
    . exact ⟨o,hx b o hb ho⟩⟩
  obtain ⟨R',e'⟩:=R.tabUp (h':=h') tk hT hk ⟨_,htab,by
    rw[htl];exact TriplesOk_snoc _ _ _ _ ht,fun pos v q=>by
    rw[htl] at q;rcases qht ht q with q | q
    . exact (hcodes pos v q).mono e0 XOk.no
    . rw[q];exact hok⟩
  exact ⟨R',e',hok⟩
end
theorem qky {params:EE}{body:Expr}(L:LamIn C c P)(rm:Room k fr A)(R:Rep C.W fr g σ s)(F:Fra C env m g s.heap){clos:List (Str×Addr)}(hcl:closureFor scope env=pure clos)(hdef:defaultsOf params env=([],[]))(hQ:∀(cv ctv:Value) (qual:Str) (pm:Value) (h':Heap) (tk:Nat),Rep C.W fr g σ { s with heap:=h',toks:=tk }->Evo C.W noX noY g s.heap g h'->CodeOk C.W g h' cv->(∀b o,s.heap.get? b=some o->b≠P->h'.get? b=some o) ->
      Q (.ref h'.objs.size) { s with heap:=h'.push { cls:=.type "function",data:=.func (qpk "<lambda>" qual params body scope clos pm cv ctv) },toks:=tk }):
    wpAny (model C.W.prog C.W.w) A (eval (.Lambda params body scope p) env) Q E s:=by
  refine qaj (R.tabs P L.tab) ?_;intro more hP ht hcodes;have hcode:env.code=.ref c:=F.code.trans L.cd;have hCd:=L.hdAt R;refine kla_eval (params:=params) (body:=body) (scope:=scope) (pos:=p) hdef ?_;generalize env.qual++("<lambda>":Str)=qual;cases hf:EF p more.toList with
  | some cv=>
    refine kla_makeFunctionHit hcl F.glob R.gNs hcode hCd hP ht hf (L.bltAt R) fun ctv h' tk hk _=>?_
    obtain ⟨R',e'⟩:=R.keeps tk hk;exact hQ cv ctv qual _ h' tk R' e' ((hcodes p cv hf).mono e' XOk.no) fun b o h _=>hk b o h
  | none=>
    have hgP:Bk≠P:=fun q=>C.W.gNT (q ▸ L.tab)
    refine Aq (L.bltAt R) ?_;intro bm h;refine Aq h ?_;intro ob hb;rw[qr9];unfold makeTail;rw[hcl,F.glob];refine Aa (Ag ?_);cases clos with
    | nil=>
      refine Aa (Ag ?_);refine Aa (wpAny_functionCodeX hcode (hCd.code hP ht) (hCd.tab hP) hf fun c' h' tk hx hge _ _ hrec htb htc=>?_);have hg':=R.gNs.extBut hx hgP;refine Aa (wpAny_builtinsFor hg' hb.1 hb.2.1 (hx _ _ hb.2.2.2.1 hb.2.2.2.2.1) hb.2.2.2.2.2.1 hb.2.2.2.2.2.2.1 hb.2.2.2.2.2.2.2 ?_);refine Aa (Gz hg' ?_);obtain ⟨R',e',ho⟩:=qkz L.tab ht hcodes R tk c' hx hge hrec htb.2 htc;exact Aa (Ag (BO (hQ _ .none qual _ h' tk R' e' ho fun b o h1 h2=>hx b o h2 h1) (by size_fits)))
    | cons q r=>
      refine Aa (wpAny_newTextTuple ?_);have hup:∀{oo:Obj} b o,s.heap.get? b=some o->(s.heap.push oo).get? b=some o:=fun b o e=>Au _ e
      refine Aa (wpAny_functionCodeX hcode ((hCd.keeps hup).code (hup _ _ hP) ht) ((hCd.keeps hup).tab (hup _ _ hP)) hf fun c' h' tk hx hge _ _ hrec htb htc=>?_);have hg':=(R.gNs.push _).extBut hx hgP;have hx':Heap.ExtBut P s.heap h':=fun b o hb' e=>hx b o hb' (hup b o e)
      have hge1:∀{oo:Obj},s.heap.objs.size<=(s.heap.push oo).objs.size:=fun {oo}=>Af (DM _) (BE (Heap.size_push _ _).symm)
      refine Aa (wpAny_builtinsFor hg' hb.1 hb.2.1 (hx' _ _ hb.2.2.2.1 hb.2.2.2.2.1) hb.2.2.2.2.2.1 hb.2.2.2.2.2.2.1 hb.2.2.2.2.2.2.2 ?_);refine Aa (Gz hg' ?_);obtain ⟨R',e',ho⟩:=qkz L.tab ht hcodes R tk c' hx' (Af hge1 hge) hrec htb.2 (htc.imp fun _ q=>⟨Af hge1 q.1,q.2⟩);exact Aa (Ag (BO (hQ _ _ qual _ h' tk R' e' ho fun b o h1 h2=>hx' b o h2 h1) (by size_fits)))
end
end
section
structure LamCap (C:Cx) (m:List (Option AV)) (names:List (Str×Ax)) (ns:List Str) (caps:List AV):Prop where
  free:∀(i:Nat) (x:Str),names[i]?=some (x,.free)->∃(j:Nat) (kd:Ax),C.nm[j]?=some (x,kd)/\kcl kd=1
  capt:∀(i:Nat) (x:Str),ns[i]?=some x->∃(l:Nat) (j:Nat) (kd:Ax) (av:AV),names[l]?=some (x,.free)/\C.nm[j]?=some (x,kd)/\kcl kd=1/\m[j]?=some (some av)/\caps[i]?=some av
  eqn:ns.length=caps.length
section
theorem qnq {cl:List (Str×Addr)}(F:Fra C env m g h)(hcl:∀(i:Nat) (x:Str),names[i]?=some (x,.free)->cl.lookup x=env.cells.lookup x):
    ∀{ns:List Str} {caps:List AV},(∀(i:Nat) (x:Str),ns[i]?=some x->∃(l:Nat) (j:Nat) (kd:Ax) (av:AV),names[l]?=some (x,.free)/\C.nm[j]?=some (x,kd)/\kcl kd=1/\m[j]?=some (some av)/\caps[i]?=some av)->ns.length=caps.length ->
    ∃vs,RVs C.W g h caps vs/\∀(i:Nat) (x:Str),ns[i]?=some x->∃(c:Addr) (u:Value),cl.lookup x=some c/\env.cells.lookup x=some c/\vs[i]?=some u/\h.get? c=some (qay (some u))/\C.W.s1.heap.get? c=none/\(g c=.other\/g c=.fz):=by
  intro ns;induction ns with
  | nil=>intro caps _ hl;cases caps with | nil=>exact ⟨[],rfl,fun i x q=>by simp at q⟩ | cons _ _=>simp at hl
  | cons x ns ih=>
    intro caps hc hl;cases caps with
    | nil=>simp at hl
    | cons a caps=>
      refine qa5 (ih (fun i y q=>by refine qah (hc (i+1) y (by simpa using q)) ?_;intro l j kd av h1 h2 h3 h4 h5;exact ⟨l,j,kd,av,h1,h2,h3,h4,by simpa using h5⟩) (by simpa using hl)) ?_;intro vs r hv;refine qah (hc 0 x rfl) ?_;intro l j kd av h1 h2 h3 h4 h5;simp at h5;subst h5;refine qap (F.cell j x kd h2 h3) ?_;intro c ov f1 f2 f3 f4 f5;refine qa5 (f5 a h4) ?_;intro u eq_3_1 ru;subst eq_3_1;refine ⟨u::vs,⟨u,vs,rfl,ru,r⟩,fun i y q=>?_⟩;cases i with
      | zero=>simp at q;subst q;exact ⟨c,u,by rw[hcl l x h1];exact f1,f1,rfl,f3,f2,f4⟩
      | succ i=>refine qb3 (hv i y (by simpa using q)) ?_;intro c' u' q1 q2 q3 q4;exact ⟨c',u',q1,q2,by simpa using q3,q4⟩
theorem Ie6 {params:EE}{body:Expr}{caps:List AV}(L:LamIn C c P)(hcap:LamCap C m scope.names ns caps)(hdef:autoParam (∀env,defaultsOf params env=([],[])) ap0._auto_1):
    Ev C k fr m σ (.Lambda params body scope p) (.clo ⟨params,body,scope⟩ ns caps) σ:=fun A env g s rm R F Q E hQ=>by
  obtain ⟨cl,hcl,hlk⟩:=qd0 (scope:=scope) (env:=env) fun i x hx=>by
    refine qcr (hcap.free i x hx) ?_;intro j kd h1 h2;refine qcr (F.cell j x kd h1 h2) ?_;intro c ov h3 _;exact ⟨c,h3⟩
  refine qky L rm R F hcl (hdef env) fun cv ctv qual pm h' tk R1 e1a ho hk=>?_
  have F1:=F.up e1a;refine qa5 (qnq F1 hlk hcap.capt hcap.eqn) ?_;intro vs hr hv;obtain ⟨R2,e2a⟩:=R1.capt (K:=fun a=>∃(i:Nat) (x:Str),ns[i]?=some x/\env.cells.lookup x=some a) (fun a ⟨i,x,h1,h2⟩=>by
    refine qdd (hv i x h1) ?_;intro c u q1 q2 q3 q4 q5 q6;rw[q2] at h2;obtain rfl:=Sj h2;exact ⟨q5,q6,_,q4⟩)
  refine AD ?_ (R2.newFz { cls:=.type "function",data:=.func (qpk "<lambda>" qual params body scope cl pm cv ctv) });intro R3 e3a;have hge:∀{b o},h'.get? b=some o->b≠h'.objs.size:=fun ho=>qgr ho
  refine hQ _ _ _ R3 (e1a.no.trans (e2a.no.trans e3a.no)) ⟨_,qpk "<lambda>" qual params body scope cl pm cv ctv,vs,rfl,qa4,⟨Ar _ rfl,rfl,rfl,rfl,rfl,rfl,rfl,rfl,(ho.mono e2a XOk.no).mono e3a XOk.no⟩,(hr.up e2a).up e3a,fun i x hx=>?_⟩;refine qdd (hv i x hx) ?_;intro c u q1 q2 q3 q4 q5 q6;exact ⟨c,u,q1,by rw[qa9 (hge q4)];exact qhv ⟨i,x,hx,q2⟩,q3,Au _ q4,q5⟩
theorem Ic9 {params:EE}{body:Expr}(L:LamIn C c P)(hfree:∀(i:Nat) (x:Str),scope.names[i]?≠some (x,.free))(hdef:autoParam (∀env,defaultsOf params env=([],[])) ap0._auto_1):
    Ev C k fr m σ (.Lambda params body scope p) (.loc σ.length) (σ++[.fn0]):=fun A env g s rm R F Q E hQ=>by
  refine qa5 (qd0 (scope:=scope) (env:=env) fun i x hx=>absurd hx (hfree i x)) ?_;intro cl hcl hlk;refine qky L rm R F hcl (hdef env) fun cv ctv qual pm h' tk R1 e1a ho hk=>?_
  refine AD ?_ (R1.pushLoc { cls:=.type "function",data:=.func (qpk "<lambda>" qual params body scope cl pm cv ctv) } (ao:=.fn0) rfl ⟨_,Ar _ rfl⟩);intro R3 e3a;exact hQ _ _ _ R3 (e1a.no.trans e3a.no) ⟨_,rfl,qa4⟩
theorem qq5 {args:Args}{fd:BS}{body:Expr}(hroom:A.depth<Gs)(ho:s.heap.get? a=some o)(hd':o.data=.func fd)(hco:fd.scope.isCoroutine=false)(hgen:fd.scope.isGenerator=false)(hbody:fd.body=.expr body){q:Str}(hcd:s.heap.CodeRec fd.code q)(h:wpAny (model prog w) A.in1 (Da fd args) (fun binds s1a=>
      wpAny (model prog w) A.in1 (Gy fd.scope fd.globals fd.closure binds (q ++ ".<locals>.") (some a) fd.code none fd.builtins)
        (fun env s2=>s2.heap.NoLimit/\Cf (model prog w) A (.expr body env) R s2) (fun e s'=>R (.error e) s') s1a) (fun e s'=>R (.error e) s') s):
    Cf (model prog w) A (.call (.ref a) args) R s:=by
  refine Dy ?_;show wpAny _ A.in1 (callAny (.ref a) args) _ _ s;simp only[callAny];refine Aa (EG ho ?_);refine qcq (hcd) ?_;intro c oc vs tq hc hoc hdc hq;simp only[hd',callFunction,hco,hgen,hbody,hc];rw[hc] at h;refine Aa (m:=field (.ref c) 1) (Eg hoc hdc hq (Aa (Ag ?_)));exact Aa (AB h (fun binds s1a h1a=>Aa (AB h1a (fun env s2 h2a=>Aa (wpAny_enterFrame h2a.1 hroom
    (Ag (GM rfl h2a.2)))) fun _ _ h'=>h')) fun _ _ h'=>h')
structure CloIn (l:Lam) (ns:List Str) (caps:List AV) (m0:List (Option AV)):Prop where
  kind:l.scope.kind=.function
  co:l.scope.isCoroutine=false
  gen:l.scope.isGenerator=false
  nd:∀(i j:Nat) (x:Str) (k k':Ax),l.scope.names[i]?=some (x,k)->l.scope.names[j]?=some (x,k')->i=j
  len:m0.length=l.scope.names.length
  free:∀(i:Nat) (x:Str),l.scope.names[i]?=some (x,.free)->∃j:Nat,ns[j]?=some x/\∀av:AV,m0[i]?=some (some av)->caps[j]?=some av
  rest:∀(i:Nat) (x:Str) (k:Ax),l.scope.names[i]?=some (x,k)->k≠.free->∀av,m0[i]?≠some (some av)
  pl:(∀(i:Nat) (x:Str),l.scope.names[i]?≠some (x,.cell))\/∀(i:Nat) (av:AV),m0[i]?=some (some av)->plain av=true
end
end
section
theorem Rep.congr {s':Al}(R:Rep W fr g σ s)(h1:s'.heap=s.heap)(h2:s'.gens=s.gens)(h3:s'.os=s.os):Rep W fr g σ s':=by
  obtain ⟨h,gs,d,tk,os⟩:=s;obtain ⟨h',gs',d',tk',os'⟩:=s';subst h1;subst h2;subst h3;exact ⟨R.base,R.baseO,R.tabO,R.tabs,R.low,R.locs,R.uniq,R.pl,R.bnd,R.frs,R.gens,R.os⟩
structure Fly (W:Wd) (fr:List Env) (g:Addr->Own) (σ:List AObj) (h0a:Heap) (made:Bool) (e:Addr) (X:String) (vs:List Value) (s:Al):Prop where
  it:∃(FR:List Env) (s0:Al) (B:Heap),s0.heap=h0a/\s.gens=s0.gens/\s.os=s0.os/\(∀e∈fr,e∈FR)/\Rep W FR g σ s0 /\
    (∀b o,h0a.get? b=some o->(∀en∈FR,en.frame≠some b)->B.get? b=some o)/\h0a.UpToSlots s.heap/\B.StaysIn s.heap /\
    ((made=true/\B.StaysIn h0a/\h0a.FunFrames B fr/\GC h0a s.heap e (.type X) vs) \/
      (made=false/\∃t,B.get? t=none/\s.heap.TupAt t vs/\(Heap.FlyingW B fr e (.type X) (.ref t) s.heap\/∃L env rest,fr=env::rest/\env.frame=some L/\GS B fr e (.type X) (.ref t) L s.heap)))
section
variable {h0a:Heap} {mk:Bool} {e:Addr} {X:String} {vs:List Value}
theorem Fly.rep (y:Fly W fr g σ h0a mk e X vs s):Rep W fr g σ s/\Evo W noX noY g h0a g s.heap:=by
  refine qbm (y.it) ?_;intro FR s0 B eq_2_3 hg ho hsub R hc hu hB _;subst eq_2_3;obtain ⟨R',e'⟩:=R.slots (h':=s.heap) s.toks (fun a=>∃en∈FR,en.frame=some a) (fun a h=>h) (fun a o q hn=>hB a o (hc a o q fun en hen hf=>hn ⟨en,hen,hf⟩)) (fun a o ⟨en,hen,hf⟩ q=>by
    refine qcq (R.frs en hen) ?_;intro f o' es ep h1 h2 h3 _;rw[hf] at h1;obtain rfl:=Sj h1;rw[q] at h2;obtain rfl:=Sj h2;exact hu a o q fun vs hd=>by rw[h3] at hd;cases hd)
  exact ⟨(R'.fewer hsub).congr rfl hg ho,e'⟩
theorem qf3 {B:Heap}:∀{l:List Env},(∀en∈l,en.scope.kind≠.module/\∃f o,en.frame=some f/\B.get? f=none/\h.get? f=some o/\∀vs,o.data≠.fields vs)->h.FunFrames B l
  | [],_=>trivial
  | en::r,H=>by
    refine qp8 (H en (.head _)) ?_;intro h1 f o h2 h3 h4 h5;exact ⟨h1,⟨f,o,h2,h3,h4,h5⟩,qf3 fun e he=>H e (.tail _ he)⟩
theorem Ida (R:Rep W fr g σ s){s':Al}(hx:GC s.heap s'.heap e (.type X) vs)(hg:s'.gens=s.gens)(ho:s'.os=s.os):Fly W fr g σ s.heap true e X vs s':=by
  have st:(hideAll s.heap (fr.filterMap (·.frame))).StaysIn s.heap:=fun b o q=>of_hideAll _ q
  refine ⟨fr,s,hideAll s.heap (fr.filterMap (·.frame)),rfl,hg,ho,fun _ h=>h,R,fun b o q hn=>?_,Heap.UpToSlots.of_keeps hx.keeps,fun b o q=>hx.keeps b o (st b o q),.inl ⟨rfl,st,?_,hx⟩⟩
  . refine hideAll_get _ q fun hm=>?_
    refine qa5 (List.mem_filterMap.mp hm) ?_;intro en hen hf;exact hn en hen hf
  . refine qf3 fun en hen=>?_
    refine qid (R.frs en hen) ?_;intro f o es ep h1 h2 h3 h4 h5 h6 h7;exact ⟨h7,f,o,h1,hideAll_none _ (List.mem_filterMap.mpr ⟨en,hen,h1⟩),h2,fun vs q=>by rw[h3] at q;cases q⟩
variable {Q:Unit->Al->Prop}
theorem Fly.leave (hA:A.frames=some (env::fr))(y:Fly W (env::fr) g σ h0a mk e X vs s)(hQ:∀s',Fly W fr g σ h0a false e X vs s'->Q () s'):wpAny M A (leaving env (.ref e)) Q E s:=by
  refine qbm (y.it) ?_;intro FR s0 B eq_7_3 hg ho hsub R hc hu hB hk;subst eq_7_3;have hsub':∀e∈fr,e∈FR:=fun e he=>hsub e (.tail _ he)
  rcases hk with ⟨_,hB0,hF,hx⟩ | ⟨_,t,ht,htup,hf | ⟨L,env',rest,he,hfr,hh⟩⟩
  . refine qgj (id hF) ?_;intro _ ne_8_1 _;refine qcr ne_8_1 ?_;intro L _ hf _;refine wpAny_leaves_madeW hA hf hB0 hF hx fun h' t f1 f2 f3 f4=>?_
    exact hQ _ ⟨FR,s0,B,rfl,hg,ho,hsub',R,hc,hu.trans f4,f1.1,.inr ⟨rfl,t,f3,f2,.inl f1⟩⟩
  . refine qgj (id hf.2.2.1) ?_;intro _ ne_9_1 _;refine qcr ne_9_1 ?_;intro L _ hf' _;refine wpAny_leaves_onW hA hf' hf fun h' f1 f2=>?_
    exact hQ _ ⟨FR,s0,B,rfl,hg,ho,hsub',R,hc,hu.trans f2,f1.1,.inr ⟨rfl,t,ht,htup.of_slots f2,.inl f1⟩⟩
  . cases he
    unfold leaving;refine Aa (wpAny_noteFrame_againW hfr hh.2.2.2 ?_);refine wpAny_landsW hh fun h' hfl f2=>?_
    refine qr4 (hfl) ?_;intro k1 k2 ne_10_2 k4;refine qgj ne_10_2 ?_;intro _ _ k3;exact hQ _ ⟨FR,s0,B,rfl,hg,ho,hsub',R,hc,hu.trans f2,k1,.inr ⟨rfl,t,ht,htup.of_slots f2,.inl ⟨k1,k2,k3,k4⟩⟩⟩
def Hold (W:Wd) (env:Env) (fr:List Env) (g:Addr->Own) (σ:List AObj) (h0a:Heap) (e:Addr) (X:String) (vs:List Value) (s:Al):Prop:=
  ∃(FR:List Env) (s0:Al) (B:Heap),s0.heap=h0a/\s.gens=s0.gens/\s.os=s0.os/\(∀e∈env::fr,e∈FR)/\Rep W FR g σ s0 /\
    (∀b o,h0a.get? b=some o->(∀en∈FR,en.frame≠some b)->B.get? b=some o)/\h0a.UpToSlots s.heap /\
    ∃t L,B.get? t=none/\s.heap.TupAt t vs/\env.frame=some L/\GS B (env::fr) e (.type X) (.ref t) L s.heap
theorem Hold.fly (y:Hold W env fr g σ h0a e X vs s):Fly W (env::fr) g σ h0a false e X vs s:=by
  refine qbu (y) ?_;intro FR s0 B h1 h2 h3 h4 h5 h6 h7 t L h8 h9 h10 h11;exact ⟨FR,s0,B,h1,h2,h3,h4,h5,h6,h7,h11.1,.inr ⟨rfl,t,h8,h9,.inr ⟨L,env,fr,rfl,h10,h11⟩⟩⟩
theorem Fly.note (hA:A.frames=some (env::fr))(y:Fly W (env::fr) g σ h0a false e X vs s)(hQ:∀s',Hold W env fr g σ h0a e X vs s'->Q () s'):wpAny M A (GL (.ref e) env) Q E s:=by
  refine qbm (y.it) ?_;intro FR s0 B eq_12_3 hg ho hsub R hc hu hB hk;subst eq_12_3;rcases hk with ⟨q,_⟩ | ⟨_,t,ht,htup,hf | ⟨L,env',rest,he,hfr,hh⟩⟩
  . cases q
  . refine qgj (id hf.2.2.1) ?_;intro _ ne_13_1 _;refine qcr ne_13_1 ?_;intro L _ hf' _;refine wpAny_looks_onW hA hf' hf fun h' f1 f2=>?_
    exact hQ _ ⟨FR,s0,B,rfl,hg,ho,hsub,R,hc,hu.trans f2,t,L,ht,htup.of_slots f2,hf',f1⟩
  . cases he
    exact wpAny_noteFrame_againW hfr hh.2.2.2 (hQ _ ⟨FR,s0,B,rfl,hg,ho,hsub,R,hc,hu,t,L,ht,htup,hfr,hh⟩)
theorem qfj {base:Heap}{l:List Env}{L:Addr}{cls a0:Value}(hh:GS base l e cls a0 L s.heap)(hQ:∀h',GS base l e cls a0 L h'->s.heap.UpToSlots h'->Q () { s with heap:=h' }):wpAny M A (setFlight (.ref e) (some L)) Q E s:=by
  refine qe9 (hh) ?_;intro hkb f2 hl oe vs T oT ts he hcls hd h1 hnT hTe hT hdT h3;have hsz3:3<ts.size:=(DL.mp h3).1;have other:∀b,b≠T->(s.heap.update T (Obj.mapFields (·.setIfInBounds 3 ((some L:Option Addr).elim Value.none fun f=>Dj f)))).get? b=s.heap.get? b:=
    fun b hb=>Heap.get?_update_other _ _ (BH hb)
  have noRecord:∀b o,s.heap.get? b=some o->(∀vs,o.data≠.fields vs)->b≠T:=fun b o hb hnf q=>by
    rw[q,hT] at hb;injection hb with hb;subst hb;exact hnf ts hdT
  unfold setFlight;refine Aa (Eg he hd h1 ?_);rw[if_pos (show (Value.ref T != Value.none)=true from by rfl)];refine GD hT hdT hsz3 (hQ _ ⟨fun b o hbo=>(other b fun q=>by rw[q,hnT] at hbo;cases hbo).trans (hkb b o hbo),f2,
    hl.of_keeps fun b o hb hnf=>⟨o,(other b (noRecord b o hb hnf)).trans hb,rfl⟩,?_⟩ fun b o hb hnf=>⟨o.slots,(other b (noRecord b o hb hnf)).trans hb⟩)
  exact ⟨oe,vs,T,_,_,(other e (BH hTe)).trans he,hcls,hd,h1,hnT,hTe,Bc _ hT (Ew (Dx hdT _)),Dx hdT _,by simp[hsz3]⟩
theorem Hold.back {E':Value->Al->Prop}(y:Hold W env fr g σ h0a e X vs s)(hE:∀s',Hold W env fr g σ h0a e X vs s'->E' (.ref e) s'):cameBackBy M A env E' (.ref e) s:=by
  refine qbu (y) ?_;intro FR s0 B h1 h2 h3 h4 h5 h6 h7 t L h8 h9 h10 h11;refine qgi (id h11) ?_;intro hkb f2 hl oe vs' T oT ts he hcls hd hv1 r;unfold cameBackBy;refine Aa (Eg he hd hv1 ?_);rw[if_neg (show ¬((Value.ref T==Value.none)=true) from by simp),h10];exact qfj h11 fun h' k1 k2=>hE _ ⟨FR,s0,B,h1,h2,h3,h4,h5,h6,h7.trans k2,t,L,h8,h9.of_slots k2,h10,k1⟩
theorem Hold.land (y:Hold W env fr g σ h0a e X vs s)(hQ:∀s',Fly W (env::fr) g σ h0a false e X vs s'->Q () s'):wpAny M A (setFlight (.ref e) none) Q E s:=by
  refine qbu (y) ?_;intro FR s0 B h1 h2 h3 h4 h5 h6 h7 t L h8 h9 h10 h11;exact wpAny_landsW h11 fun h' k1 k2=>hQ _ ⟨FR,s0,B,h1,h2,h3,h4,h5,h6,h7.trans k2,k1.1,.inr ⟨rfl,t,h8,h9.of_slots k2,.inl k1⟩⟩
theorem Fly.again (y:Fly W fr g σ h0a false e X vs s)(hQ:∀s',Fly W fr g σ h0a false e X vs s'->Q () s'):wpAny M A (setFlight (.ref e) none) Q E s:=by
  refine qbm (y.it) ?_;intro FR s0 B eq_18_3 hg ho hsub R hc hu hB hk;subst eq_18_3;rcases hk with ⟨q,_⟩ | ⟨_,t,ht,htup,hf | ⟨L,env',rest,he,hfr,hh⟩⟩
  . cases q
  . exact lands_againW hf fun h' k1 k2=>hQ _ ⟨FR,s0,B,rfl,hg,ho,hsub,R,hc,hu.trans k2,k1.1,.inr ⟨rfl,t,ht,htup.of_slots k2,.inl k1⟩⟩
  . exact wpAny_landsW hh fun h' k1 k2=>hQ _ ⟨FR,s0,B,rfl,hg,ho,hsub,R,hc,hu.trans k2,k1.1,.inr ⟨rfl,t,ht,htup.of_slots k2,.inl k1⟩⟩
end
end
section
def CallsR (W:Wd) (Y:Nat->Prop) (k:Nat) (fr:List Env) (σ:List AObj) (f:AV) (args:List AV) (kn:List Str) (kv:List AV) (mk:Bool) (X:String) (P:List Value->Prop) (z':List AObj):Prop:=
  ∀(A:BF) (g:Addr->Own) (s:Al) (vf:Value) (vs ks:List Value),Room k fr A->Rep W fr g σ s->RV W g s.heap f vf->RVs W g s.heap args vs->RVs W g s.heap kv ks->∀(Q:Value->Al->Prop) (E:Value->Al->Prop),
    (∀e g' h0a us s',P us->Evo W noX Y g s.heap g' h0a->Fly W fr g' z' h0a mk e X us s'->E (.ref e) s')->wpAny (model W.prog W.w) A (call vf vs (kn.zip ks)) Q E s
def EvR (C:Cx) (k:Nat) (fr:List Env) (m:List (Option AV)) (σ:List AObj) (e:Expr) (mk:Bool) (X:String) (P:List Value->Prop) (z':List AObj):Prop:=
  ∀(A:BF) (env:Env) (g:Addr->Own) (s:Al),Room k fr A->Rep C.W fr g σ s->Fra C env m g s.heap->∀(Q:Value->Al->Prop) (E:Value->Al->Prop),
    (∀e g' h0a us s',P us->Evo C.W noX C.Y g s.heap g' h0a->Fly C.W fr g' z' h0a mk e X us s'->E (.ref e) s')->wpAny (model C.W.prog C.W.w) A (eval e env) Q E s
def ExR (C:Cx) (k:Nat) (fr:List Env) (m:List (Option AV)) (σ:List AObj) (st:Stmt) (mk:Bool) (X:String) (P:List Value->Prop) (m':List (Option AV)) (z':List AObj):Prop:=
  ∀(A:BF) (env:Env) (outer:List Env) (g:Addr->Own) (s:Al),fr=env::outer->Room k fr A->Rep C.W fr g σ s->Fra C env m g s.heap->∀(Q:Flow->Al->Prop) (E:Value->Al->Prop),
    (∀e g' h0a us s',P us->Evo C.W (FX C.nm env) C.Y g s.heap g' h0a->Fra C env m' g' h0a->Fly C.W fr g' z' h0a mk e X us s'->E (.ref e) s')->wpAny (model C.W.prog C.W.w) A (exec st env) Q E s
def ExsR (C:Cx) (k:Nat) (fr:List Env) (m:List (Option AV)) (σ:List AObj) (sts:List Stmt) (mk:Bool) (X:String) (P:List Value->Prop) (m':List (Option AV)) (z':List AObj):Prop:=
  ∀(A:BF) (env:Env) (outer:List Env) (g:Addr->Own) (s:Al),fr=env::outer->Room k fr A->Rep C.W fr g σ s->Fra C env m g s.heap->∀(Q:Flow->Al->Prop) (E:Value->Al->Prop),
    (∀e g' h0a us s',P us->Evo C.W (FX C.nm env) C.Y g s.heap g' h0a->Fra C env m' g' h0a->Fly C.W fr g' z' h0a mk e X us s'->E (.ref e) s')->wpAny (model C.W.prog C.W.w) A (execs sts env) Q E s
section
variable {mk:Bool} {X:String} {P:List Value->Prop}
theorem ExsR.head {r:List Stmt}(h:ExR C k fr m σ st mk X P m' z'):ExsR C k fr m σ (st::r) mk X P m' z':=fun A env outer g s hfr rm R F Q E hE=>
  Cq (h A env outer g s hfr rm R F _ _ hE)
theorem Icm {a b:List Stmt}{c:Bool}(ht:Tr C k fr m σ t c z1)(ha:c=true->ExsR C k fr m z1 a mk X P m' z')(hb:c=false->ExsR C k fr m z1 b mk X P m' z'):ExR C k fr m σ (.If t a b p) mk X P m' z':=fun A env outer g s hfr rm R F Q E hE=>by
  refine wpAny_If (ht A env g s rm R F _ _ fun g1 s1a R1 e1a=>?_);cases c with
  | true=>exact ha rfl A env outer g1 s1a hfr rm R1 (F.up e1a) Q E fun e g' h0a us s' hp e2a F2 y=>hE e g' h0a us s' hp (e1a.toX.trans e2a) F2 y
  | false=>exact hb rfl A env outer g1 s1a hfr rm R1 (F.up e1a) Q E fun e g' h0a us s' hp e2a F2 y=>hE e g' h0a us s' hp (e1a.toX.trans e2a) F2 y
theorem Ich {np cp sp:Pos}{msg:Str}(hx:C.nm[i]?=some (x,.globalImplicit))(hg:C.W.mg x=none)(hv:C.W.mb x=some (.type "ValueError"))(hd:autoParam ((x==("__debug__":Str))=false) ap1._auto_1):
    ExR C k fr m σ (.Raise (some (.Call (.Name x np) [.Constant (.str msg) n sp] [] cp)) none p) true "ValueError" (fun us=>∃t,us=[.str msg t]) m σ:=fun A env outer g s hfr rm R F Q E hE=>by
  refine wpAny_Raise_call PySem.F.excCall_ValueError PySem.F.excRaise_ValueError rm.handled rfl ?_;refine (Idq (k:=k) (fr:=fr) (m:=m) (σ:=σ) (p:=np) hx hg hv hd) A env g s rm R F _ _ fun v' g1 s1a R1 e1a rv=>⟨rv,?_⟩
  refine PySem.Calls.evalArgs_plain (Calls.spliced_cons ((Ia8 (C:=C) (k:=k) (fr:=fr) (m:=m) (σ:=σ) (n:=n) (p:=sp)) A env g1 s1a rm R1 (F.up e1a) _ _ fun w g2 s2 R2 e2a rw'=>Calls.spliced_nil ?_));obtain ⟨t,rfl⟩:=rw';refine ⟨rfl,(by decide:1<=Ai),fun h' e hm=>?_⟩;have e12:=e1a.trans e2a;exact hE e g2 s2.heap _ _ ⟨t,rfl⟩ e12.toX (F.up e12) (Ida R2 ⟨hm.keeps,hm.new,hm.there⟩ rfl rfl)
theorem EvR.call {q:Pos}{kws:List GK}{f:AV}(hn:Ev C k fr m σ (.Name x q) f z1)(hf:Kept C.W f)(ha:Evs C k fr m z1 es args z2)(hk:EvK C k fr m z2 kws kn kv z3)(hc:CallsR C.W C.Y k fr z3 f args kn kv mk X P z')(hpl:autoParam (∀env p,(Fg p (C6 es env)).any (·.1)=false) ap0._auto_1):EvR C k fr m σ (.Call (.Name x q) es kws p) mk X P z':=fun A env g s rm R F Q E hE=>by
  refine Ec (hn A env g s rm R F _ _ fun vf g1 s1a R1 e1a rf=>?_);refine qf6 (first:=[]) hf ha hk hpl rm R1 (F.up e1a) rf rfl fun g2 s2 vs ks R2 e2a rf rv rk=>?_
  exact hc A g2 s2 vf vs ks rm R2 rf rv rk Q E fun e g' h0a us s' hp e3a y=>hE e g' h0a us s' hp ((e1a.trans e2a).trans e3a) y
theorem Id0 (he:EvR C k fr m σ e mk X P z')(hsw:autoParam (∀env,FJ [.Name x px] e p.line env=pure false) ap0._auto_1)(hst:autoParam (∀env,DB [.Name x px] e env=pure none) ap0._auto_1):
    ExR C k fr m σ (.Assign [.Name x px] e p) mk X P m z':=fun A env outer g s hfr rm R F Q E hE=>
  CE (he A env g s rm R F _ _ fun e g' h0a us s' hp e1a y=>hE e g' h0a us s' hp e1a.toX (F.up e1a) y) (hsw env) (hst env)
theorem qdv (F:Fra C env m g h):interactive env=false:=by
  have:=F.kind;unfold interactive;simp[this]
theorem Ex.expr (he:Ev C k fr m σ e v z')(hs:autoParam (∀env,swapsWith e none p.line env=pure false) ap0._auto_1):Ex C k fr m σ (.Expr e p) .next m z':=fun A env g s rm R F Q E hQ=>
  wpAny_Expr_any (he A env g s rm R F _ _ fun v' g1 s1a R1 e1a rv=>hQ _ g1 s1a R1 e1a.toX (F.up e1a) rfl) (qdv F) (hs env)
theorem ExR.expr (he:EvR C k fr m σ e mk X P z')(hs:autoParam (∀env,swapsWith e none p.line env=pure false) ap0._auto_1):ExR C k fr m σ (.Expr e p) mk X P m z':=fun A env outer g s hfr rm R F Q E hE=>
  wpAny_Expr_any (he A env g s rm R F _ _ fun e g' h0a us s' hp e1a y=>hE e g' h0a us s' hp e1a.toX (F.up e1a) y) (qdv F) (hs env)
theorem Id2 {pl:Env->Sem Bool}{o:Expr}{q:Pos}{a f:AV}{first:List AV}(he:Ev C k fr m σ o a z1)(hm:MethOk C.W fr z1 a x f first)(hf:Kept C.W f)(ha:EvR C k fr m z1 e1 mk X P z')(hs:autoParam (∀env,C6 [e1] env=[(false,eval e1 env)]) ap0._auto_1)(he':autoParam (∀env,eval (.Call (.Attribute o x q) [e1] [] p) env=(do
      let ov <- eval o env
      Dd q.atName
      let (f,first) <- DQ [ov] (getMethod ov x (pl env))
      callWith p f first (Fg p (C6 [e1] env)) [])) ap0._auto_1):EvR C k fr m σ (.Call (.Attribute o x q) [e1] [] p) mk X P z':=fun A env g s rm R F Q E hE=>by
  refine MethodCall_ (pl:=pl env) ?_ (he' env);refine he A env g s rm R F _ _ fun va g1 s1a R1 e1a ra=>?_
  refine hm A g1 s1a va (pl env) _ _ R1 ra (fun vf fs s2 R2 h2a rf rs=>?_);have e2a:Evo C.W noX C.Y g s.heap g1 s2.heap:=by rw[h2a];exact e1a
  rw[hs];refine callWith_of (P:=fun h=>∃kp,(kp=F9\/kp=Fk\/kp=En)/\Looks (model C.W.prog C.W.w) h (keeperOf vf) kp) (by rfl) (fun h q=>q) ?_;refine qe2 (by rfl) (by rfl) ?_;show wpAny _ A (spliced ((false,eval e1 env)::[])) _ E s2;refine Calls.spliced_cons (ha A env g1 s2 rm R2 (F.up e2a) _ _ fun e g' h0a us s' hp e3a y=>?_);exact hE e g' h0a us s' hp (e2a.trans e3a) y
theorem Id6 {fd:BS}(Fn:qqt C a fd body)(hb:qcu C.W fd args kn kv xs vs)(B:Binds C.nm xs vs (AR C.nm.length none) m1)(hbody:∀env,ExsR C k (env::fr) m1 σ body mk X P m' z')(hY:∀n,n<σ.length->C.Y n->Y n):
    CallsR C.W Y (k+1) fr σ (.glob (.ref a)) args kn kv false X P z':=fun A g s vf us ks rm R rf ru rk Q E hE=>by
  obtain rfl:vf=.ref a:=rf;refine qa5 (Fn.get) ?_;intro o ho hd;refine qah (Fn.code) ?_;intro c oc cvs tq h1 h2 h3 h4 h5;refine qa5 (hb fr g σ s us ks R ru rk) ?_;intro ws hbt hws;refine EJ (DE rm.dep (R.base a o ho Fn.nt) hd Fn.co Fn.gen Fn.body ⟨c,oc,cvs,tq,h1,R.base c oc h2 h3,h4,h5⟩ (hbt _ _ _ _ ?_));rw[Fn.glob,Fn.clo,Fn.blt];refine qcs (C:=C) (m0:=AR C.nm.length none) Fn.nm Fn.nd Fn.kind Fn.lk (by exact Fn.cd) (fun o h=>by cases h) R (fun i x kd hi=>⟨fun hk=>by subst hk;exact absurd hi (Fn.nofree i x),fun _ av q=>by
    rw[Bw] at q;split at q <;> cases q⟩) (.inr fun i av q=>by rw[Bw] at q;split at q <;> cases q) B hws (by simp) fun env g1 s1a R1 e1a F1 hsc hL hcl hown hfr _ hRc=>?_
  refine ⟨R1.nolim,Ge ?_⟩;refine hbody env _ env fr g1 s1a rfl rm.deeper (hRc rfl) F1 _ _ fun e g2 h2a us s2 hp e2a F2 y=>?_
  refine y.leave (by show (A.deeper env).frames=_;exact rm.deeper.frames) fun s3 y3=>?_
  have hfresh:∀a o,s.heap.get? a=some o->FX C.nm env a->noX a:=fun a o ho ha=>by
    rcases ha with rfl | ⟨i,x,hi,hcx⟩
    . rw[hL] at ho;cases ho
    . rw[hown i x a hi hcx] at ho;cases ho
  have e12:Evo C.W noX C.Y g s.heap g2 h2a:=(e1a.no.toX.trans e2a).weak R.low hfresh fun _ q=>q
  exact hE e g2 h2a us s3 hp (e12.wkB R hY) y3
end
end
section
def ExF (C:Cx) (k:Nat) (env:Env) (outer:List Env) (m:List (Option AV)) (σ:List AObj) (st:Stmt) (fl:AFl) (m':List (Option AV)) (z':List AObj):Prop:=
  ∀(A:BF) (g:Addr->Own) (s:Al),Room k (env::outer) A->Rep C.W (env::outer) g σ s->Fra C env m g s.heap->∀(Q:Flow->Al->Prop) (E:Value->Al->Prop),
    (∀f' g' s',Rep C.W (env::outer) g' z' s'->Evo C.W (FX C.nm env) C.Y g s.heap g' s'.heap->Fra C env m' g' s'.heap->RFl C.W g' s'.heap fl f'->Q f' s')->wpAny (model C.W.prog C.W.w) A (exec st env) Q E s
def ExsF (C:Cx) (k:Nat) (env:Env) (outer:List Env) (m:List (Option AV)) (σ:List AObj) (sts:List Stmt) (fl:AFl) (m':List (Option AV)) (z':List AObj):Prop:=
  ∀(A:BF) (g:Addr->Own) (s:Al),Room k (env::outer) A->Rep C.W (env::outer) g σ s->Fra C env m g s.heap->∀(Q:Flow->Al->Prop) (E:Value->Al->Prop),
    (∀f' g' s',Rep C.W (env::outer) g' z' s'->Evo C.W (FX C.nm env) C.Y g s.heap g' s'.heap->Fra C env m' g' s'.heap->RFl C.W g' s'.heap fl f'->Q f' s')->wpAny (model C.W.prog C.W.w) A (execs sts env) Q E s
def ForF (C:Cx) (k:Nat) (env:Env) (outer:List Env) (t:Expr) (body orelse:List Stmt) (ai:AIt) (i:Nat) (m:List (Option AV)) (σ:List AObj) (fl:AFl) (m':List (Option AV)) (z':List AObj):Prop:=
  ∀(A:BF) (g:Addr->Own) (s:Al) (it:Value) (ws:List Addr),Room k (env::outer) A->Rep C.W (env::outer) g σ s->Fra C env m g s.heap->ai.St C.W g s.heap ws it i->(∀a∈ws,Priv C.W g s.heap a)->∀(R:GZ->Al->Prop),
    (∀f' g' s',Rep C.W (env::outer) g' z' s'->Evo C.W (fun a=>FX C.nm env a\/a∈ws) C.Y g s.heap g' s'.heap->Fra C env m' g' s'.heap->RFl C.W g' s'.heap fl f'->R (.ok f') s')->Cf (model C.W.prog C.W.w) A (.forLoop t it body orelse env) R s
def ForR (C:Cx) (k:Nat) (fr:List Env) (t:Expr) (body orelse:List Stmt) (ai:AIt) (i:Nat) (m:List (Option AV)) (σ:List AObj) (X:String) (P:List Value->Prop) (m':List (Option AV)) (z':List AObj):Prop:=
  ∀(A:BF) (env:Env) (outer:List Env) (g:Addr->Own) (s:Al) (it:Value) (ws:List Addr),fr=env::outer->Room k fr A->Rep C.W fr g σ s->Fra C env m g s.heap->ai.St C.W g s.heap ws it i->(∀a∈ws,Priv C.W g s.heap a)->∀(R:GZ->Al->Prop),
    (∀e g' h0a us s',P us->Evo C.W (fun a=>FX C.nm env a\/a∈ws) C.Y g s.heap g' h0a->Fra C env m' g' h0a->Hold C.W env outer g' z' h0a e X us s'->R (.error (.ref e)) s')->Cf (model C.W.prog C.W.w) A (.forLoop t it body orelse env) R s
section
variable {outer:List Env} {mk:Bool} {X:String} {P:List Value->Prop}
theorem Ex.f (h:Ex C k (env::outer) m σ st fl m' z'):ExF C k env outer m σ st fl m' z':=fun A g s rm R F Q E hQ=>h A env g s rm R F Q E hQ
theorem Exs.f (h:Exs C k (env::outer) m σ sts fl m' z'):ExsF C k env outer m σ sts fl m' z':=fun A g s rm R F Q E hQ=>h A env g s rm R F Q E hQ
theorem ExsF.nil:ExsF C k env outer m σ [] .next m σ:=fun A g s rm R F Q E hQ=>EU (hQ _ g s R Evo.refl F rfl)
theorem ExsF.cons {r:List Stmt}(h1:ExF C k env outer m σ st .next m1 z1)(h2:ExsF C k env outer m1 z1 r fl m' z'):ExsF C k env outer m σ (st::r) fl m' z':=fun A g s rm R F Q E hQ=>by
  refine Cq (h1 A g s rm R F _ _ fun f' g1 s1a R1 e1a F1 hf=>?_);obtain rfl:f'=.next:=hf;exact h2 A g1 s1a rm R1 F1 Q E fun f' g2 s2 R2 e2a F2 hf=>hQ f' g2 s2 R2 (e1a.trans e2a) F2 hf
theorem ExsF.ret {r:List Stmt}(h1:ExF C k env outer m σ st (.ret v) m' z'):ExsF C k env outer m σ (st::r) (.ret v) m' z':=fun A g s rm R F Q E hQ=>by
  refine Cq (h1 A g s rm R F _ _ fun f' g1 s1a R1 e1a F1 hf=>?_);refine qa5 (hf) ?_;intro v' eq_0_1 hv;subst eq_0_1;exact hQ _ g1 s1a R1 e1a F1 ⟨v',rfl,hv⟩
theorem ForF.done (hO:ai.Ok σ)(hi:ai.items.length=i)(ho:ExsF C k env outer m σ orelse fl m' z'):ForF C k env outer t body orelse ai i m σ fl m' z':=fun A g s it ws rm R F S hP Rr hR=>by
  refine qbf (Icr hO rm R S hP hi fun g1 s1a R1 e1a=>?_);exact ho A g1 s1a rm R1 (F.turn hP e1a) _ _ fun f' g2 s2 R2 e2a F2 hf=>hR f' g2 s2 R2 ((e1a.inX fun _ q=>.inr q).toY.trans (e2a.inX fun _ q=>.inl q)) F2 hf
theorem qhi (hO:ai.Ok σ)(hp:ai.plain=true)(hv:ai.items[i]?=some v)(ht:ai.pairs=true->∃elts n p,t=.Tuple elts n p)(ha:As C k fr m σ t v m1 z1)(rm:Room k fr A)(R:Rep C.W fr g σ s)(F:Fra C env m g s.heap)(S:ai.St C.W g s.heap ws it i)(hP:∀a∈ws,Priv C.W g s.heap a){Rr:GZ->Al->Prop}(hR:∀g2 s2,Rep C.W fr g2 z1 s2->Evo C.W (fun a=>FX C.nm env a\/a∈ws) C.Y g s.heap g2 s2.heap->Fra C env m1 g2 s2.heap->ai.St C.W g2 s2.heap ws it (i+1)->(∀a∈ws,Priv C.W g2 s2.heap a) ->
      wpAny (model C.W.prog C.W.w) A (execs body env) (fun f s3=>match f with
            | .next | .cont=>Cf (model C.W.prog C.W.w) A (.forLoop t it body orelse env) Rr s3
            | .brk=>Rr (.ok .next) s3
            | .ret v=>Rr (.ok (.ret v)) s3) (DH (model C.W.prog C.W.w) A env fun e s'=>Rr (.error e) s') s2):
    Cf (model C.W.prog C.W.w) A (.forLoop t it body orelse env) Rr s:=by
  refine qbf (AB (AIt.step (t:=t) hO rm R S hP hv ht (Q:=fun v' s1a=>∃g1,Rep C.W fr g1 σ s1a/\Evo C.W (·∈ws) noY g s.heap g1 s1a.heap/\ai.St C.W g1 s1a.heap ws it (i+1)/\(∀a∈ws,Priv C.W g1 s1a.heap a)/\RV C.W g1 s1a.heap v v')
    fun v' g1 s1a R1 e1a S1 hP1 rv=>⟨g1,R1,e1a,S1,hP1,rv⟩) (fun r s1a h1a=>?_) fun _ _ e=>e)
  refine qa5 (h1a) ?_;(try clear h1a);intro v' eq_1_1 h1a;subst eq_1_1;refine AB h1a (fun _ s1' h1'=>?_) fun _ _ e=>e
  refine qet (h1') ?_;intro g1 R1 e1a S1 hP1 rv;have F1:=F.turn hP e1a;refine ha A env g1 s1' v' rm R1 F1 rv _ _ fun g2 s2 R2 e2a F2=>?_
  have k2:∀a∈ws,∀o,s1'.heap.get? a=some o->s2.heap.get? a=some o:=fun a ha o ho=>(Priv.keep F1 e2a (hP1 a ha) ho).1
  have hP2:∀a∈ws,Priv C.W g2 s2.heap a:=fun a ha=>by refine qa5 ((hP1 a ha).obj) ?_;intro o ho _;exact (Priv.keep F1 e2a (hP1 a ha) ho).2
  exact hR g2 s2 R2 ((e1a.inX fun _ q=>.inr q).toY.trans (e2a.inX fun _ q=>.inl q)) F2 (AIt.St.mono e2a F1.xok k2 ai (.inr hp) S1) hP2
theorem qit {g2 g3:Addr->Own}{h2a h3:Heap}(hp:ai.plain=true)(F2:Fra C env m g2 h2a)(e3a:Evo C.W (FX C.nm env) C.Y g2 h2a g3 h3)(S2:ai.St C.W g2 h2a ws it i)(hP2:∀a∈ws,Priv C.W g2 h2a a):
    ai.St C.W g3 h3 ws it i/\∀a∈ws,Priv C.W g3 h3 a:=
  ⟨AIt.St.mono e3a F2.xok (fun a ha o ho=>(Priv.keep F2 e3a (hP2 a ha) ho).1) ai (.inr hp) S2,fun a ha=>by refine qa5 ((hP2 a ha).obj) ?_;intro o ho _;exact (Priv.keep F2 e3a (hP2 a ha) ho).2⟩
theorem ForF.next (hO:ai.Ok σ)(hp:ai.plain=true)(hv:ai.items[i]?=some v)(ht:ai.pairs=true->∃elts n p,t=.Tuple elts n p)(ha:As C k (env::outer) m σ t v m1 z1)(hb:ExsF C k env outer m1 z1 body .next m2 z2)(hn:ForF C k env outer t body orelse ai (i+1) m2 z2 fl m' z'):ForF C k env outer t body orelse ai i m σ fl m' z':=fun A g s it ws rm R F S hP Rr hR=>by
  refine qhi hO hp hv ht ha rm R F S hP fun g2 s2 R2 e2a F2 S2 hP2=>?_
  refine hb A g2 s2 rm R2 F2 _ _ fun f' g3 s3 R3 e3a F3 hf=>?_
  obtain rfl:f'=.next:=hf;obtain ⟨S3,hP3⟩:=qit hp F2 e3a S2 hP2;exact hn A g3 s3 it ws rm R3 F3 S3 hP3 Rr fun f' g4 s4 R4 e4 F4 hf=>hR f' g4 s4 R4 ((e2a.trans (e3a.inX fun _ q=>.inl q)).trans e4) F4 hf
theorem ForR.next (hO:ai.Ok σ)(hp:ai.plain=true)(hv:ai.items[i]?=some v)(ht:ai.pairs=true->∃elts n p,t=.Tuple elts n p)(ha:As C k fr m σ t v m1 z1)(hb:Exs C k fr m1 z1 body .next m2 z2)(hn:ForR C k fr t body orelse ai (i+1) m2 z2 X P m' z'):ForR C k fr t body orelse ai i m σ X P m' z':=fun A env outer g s it ws hfr rm R F S hP Rr hR=>by
  refine qhi hO hp hv ht ha rm R F S hP fun g2 s2 R2 e2a F2 S2 hP2=>?_
  refine hb A env g2 s2 rm R2 F2 _ _ fun f' g3 s3 R3 e3a F3 hf=>?_
  obtain rfl:f'=.next:=hf;obtain ⟨S3,hP3⟩:=qit hp F2 e3a S2 hP2;exact hn A env outer g3 s3 it ws hfr rm R3 F3 S3 hP3 Rr fun e g' h0a us s' hp' e4 F4 y=>hR e g' h0a us s' hp' ((e2a.trans (e3a.inX fun _ q=>.inl q)).trans e4) F4 y
theorem ForR.here (hO:ai.Ok σ)(hp:ai.plain=true)(hv:ai.items[i]?=some v)(ht:ai.pairs=true->∃elts n p,t=.Tuple elts n p)(ha:As C k fr m σ t v m1 z1)(hb:ExsR C k fr m1 z1 body false X P m' z'):
    ForR C k fr t body orelse ai i m σ X P m' z':=fun A env outer g s it ws hfr rm R F S hP Rr hR=>by
  refine qhi hO hp hv ht ha rm R F S hP fun g2 s2 R2 e2a F2 S2 hP2=>?_
  refine hb A env outer g2 s2 hfr rm R2 F2 _ _ fun e g' h0a us s' hp' e3a F3 y=>?_
  subst hfr;exact y.note rm.frames fun s4 y4=>hR e g' h0a us s4 hp' (e2a.trans (e3a.inX fun _ q=>.inl q)) F3 y4
theorem ForR.pre (h:ForR C k fr t body orelse ai i m σ X P m' z')(w:∀(i:Nat) (av:AV),m[i]?=some (some av)->m2[i]?=some (some av)):ForR C k fr t body orelse ai i m2 σ X P m' z':=fun A env outer g s it ws hfr rm R F S hP Rr hR=>h A env outer g s it ws hfr rm R (F.weak w) S hP Rr hR
theorem Idz (hi:ItE C k (env::outer) m σ iter ai z1)(hf:ForF C k env outer t body orelse ai 0 m z1 fl m' z')(hs:autoParam (∀x env,BA iter env x=pure x) ap0._auto_1):
    ExF C k env outer m σ (.For t iter body orelse p) fl m' z':=fun A g s rm R F Q E hQ=>by
  refine wpAny_For (hi A env g s rm R F _ _ fun it g1 s1a ws R1 e1a S hP hfr=>?_) (fun x=>hs x env);refine hf A g1 s1a it ws rm R1 (F.up e1a) S hP _ fun f' g2 s2 R2 e2a F2 hf=>?_
  refine hQ f' g2 s2 R2 ?_ F2 hf;exact ((e1a.toX (X:=fun a=>FX C.nm env a\/a∈ws)).trans e2a).weak R.low (fun a o ho q=>q.resolve_right fun q=>by rw[hfr a q] at ho;cases ho) fun _ q=>q
theorem Idy (hi:ItE C k fr m σ iter ai z1)(hf:ForR C k fr t body orelse ai 0 m z1 X P m' z')(hs:autoParam (∀x env,BA iter env x=pure x) ap0._auto_1):
    ExR C k fr m σ (.For t iter body orelse p) false X P m' z':=fun A env outer g s hfr rm R F Q E hE=>by
  refine wpAny_For (hi A env g s rm R F _ _ fun it g1 s1a ws R1 e1a S hP hfr'=>?_) (fun x=>hs x env);refine hf A env outer g1 s1a it ws hfr rm R1 (F.up e1a) S hP _ fun e g' h0a us s' hp e2a F2 y=>?_
  refine y.back fun s3 y3=>hE e g' h0a us s3 hp ?_ F2 (hfr ▸ y3.fly)
  exact ((e1a.toX (X:=fun a=>FX C.nm env a\/a∈ws)).trans e2a).weak R.low (fun a o ho q=>q.resolve_right fun q=>by rw[hfr' a q] at ho;cases ho) fun _ q=>q
end
end
section
theorem qsy {m:Str->Option Value}{name:Str}{Q:Bool->Al->Prop}(hn:s.heap.Ns a m)(hs:(m name).isSome=true)(hQ:∀h' v,h'.Ns a (fun x=>if x=name then v else m x)->AQ a s.heap h'->(∀o,s.heap.get? a=some o->∃o',h'.get? a=some o'/\o'.cls=o.cls)->Q true { s with heap:=h' }):wpAny M A (nsDel a name) Q E s:=by
  refine qa2 (id hn) ?_;intro ne_0_0 es ep ho hd hk hm;obtain ⟨cl,d,dt,sl⟩:=ne_0_0;have hd':dt=.dict es ep:=hd;subst hd';have hany:es.any (·.refKey)=false:=by
    rw[E0];intro e he;refine qjj (hk e he) ?_;intro n t h;simp[FS,h]
  have hsome:es.any (·.key.isStr name)=true:=by
    rw[<- hm name] at hs;simp only[nsFind,findBy,Option.isSome_map,Array.find?_isSome] at hs;refine qa5 (hs) ?_;intro x hx hp;obtain ⟨i,hi,rfl⟩:=Ey.mp hx;exact Array.any_eq_true.mpr ⟨i,hi,hp⟩
  have hhas:nsHas name (⟨cl,d,.dict es ep,sl⟩:Obj)=pure true:=by
    rw[nsHas_eq];unfold nsHasByArray;show (if (es.any fun x=>x.key.isStr name)=true then _ else _)=_;rw[if_pos hsome]
  have hg:=Bc (Obj.dropName name) ho (by simp only[EV,DU];cases es.findIdx? (·.key.isStr name) <;> rfl);unfold nsDel;refine Aa (wpAny_loadPart ho ?_);rw[hhas];refine Aa (Ag ?_);refine Aa (wpAny_updatePart ho (Ag ?_));have key:∃v,(s.heap.update a (Obj.dropName name)).Ns a (fun x=>if x=name then v else m x):=by
    cases hi:es.findIdx? (·.key.isStr name) with
    | some i=>
      exact ⟨nsFind (es.eraseIdxIfInBounds i) name,_,_,ep+1,hg,(by simp only[EV,DU,hi] <;> rfl),hk.erase i,
        fun x=>by
          show nsFind (es.eraseIdxIfInBounds i) x=if x=name then nsFind (es.eraseIdxIfInBounds i) name else m x;by_cases hx:x=name
          . rw[if_pos hx,hx]
          . rw[if_neg hx,nsFind_erase_other hi hx,hm]⟩
    | none=>exact ⟨m name,_,_,ep,hg,(by simp only[EV,DU,hi] <;> rfl),hk,fun x=>by by_cases hx:x=name <;> simp[hx,hm]⟩
  obtain ⟨v,hv⟩:=key;refine hQ _ v hv (Bj ..) fun o q=>⟨_,hg,?_⟩
  rw[ho] at q;obtain rfl:=Sj q;simp only[EV,DU];cases es.findIdx? (·.key.isStr name) <;> rfl
section
variable {outer:List Env} {mk:Bool} {X:String} {P:List Value->Prop}
theorem qi0 (hi:C.nm[i]?=some (x,.local))(ha:m[i]?=some (some av))(R:Rep C.W fr g σ s)(F:Fra C env m g s.heap){Q:Unit->Al->Prop}(hQ:∀g' s',Rep C.W fr g' σ s'->Evo C.W (FX C.nm env) noY g s.heap g' s'.heap->Fra C env (m.set i none) g' s'.heap->Q () s'):wpAny (model C.W.prog C.W.w) A (unbindBehindTheSuite env x pos) Q E s:=by
  refine qa5 (F.names i x _ hi) ?_;intro k' h3 h4;have:k'=.local:=by cases k' <;> first | rfl | (exact absurd h4 (by decide))
  subst this;refine qa5 (F.ns) ?_;intro mh hn hm;refine qa5 (hm i x av hi ha) ?_;intro v0 hv0 _;have hp:(env.scope.kind==.class||(env.scope.kind==.module&&env.locals != env.globals))=false:=by simp[F.kind]
  unfold unbindBehindTheSuite;refine DX ?_;unfold unbindName;refine Aa (wpAny_point (Aa ?_));unfold deleteName;simp only[h3,hp];rw[if_neg (by decide)];refine Aa (qsy hn (by rw[hv0];rfl) fun h' v hn' hs hcc=>?_);simp only[if_true,Option.isSome_some,Bool.not_true,AY,if_false];refine Ag (wpAny_point ?_);refine qar (id hn) ?_;intro oL es ep hL hLd hr;refine qar (id hn') ?_;intro oL' es' ep' hL' hLd' hr';have hxo:XOk (fun a=>a=env.locals) g s.heap:=fun a ha=>by
    subst ha;exact ⟨.inl F.Lo,fun o vs ho hd=>by rw[hL] at ho;obtain rfl:=Sj ho;rw[hLd] at hd;cases hd⟩
  obtain ⟨R',e⟩:=R.turn (g':=g) (h':=h') s.toks (fun a=>a=env.locals) hxo (fun a ha=>by subst ha;exact F.Lz) (fun _ _=>rfl) (fun a ha=>by subst ha;exact F.Lo)
    (fun a o ho ha=>(hs.2 a ha).trans ho) (fun a o es n ha ho hd=>by subst ha;refine qa5 (hcc o ho) ?_;intro o' h5 h6;rw[hL'] at h5;obtain rfl:=Sj h5;exact ⟨oL',es',ep',hL',hLd',h6⟩)
  have up:∀av v,RV C.W g s.heap av v->RV C.W g h' av v:=fun av v r=>r.mono e hxo av (.inl fun a ha=>by subst ha;exact F.Lo) v
  refine hQ g _ R' ?_ ?_
  . exact e.weak (X':=FX C.nm env) (Y':=noY) R.low (fun a o _ ha=>.inl ha) (fun n q=>q.elim)
  . refine ⟨F.kind,F.names,F.nd,F.glob,F.blt,F.code,F.Lo,F.Lz,⟨_,hn',fun j y av' h1 h2=>?_⟩,fun j y kd h1 h2=>?_,?_,F.inj⟩
    . by_cases hj:j=i
      . subst hj;by_cases hl:j<m.length
        . rw[Bs hl] at h2;cases h2
        . rw[BK (by rw[A5];simp_all)] at h2;cases h2
      . rw[Bl (BH hj)] at h2;refine qa5 (hm j y av' h1 h2) ?_;intro w h5 h6;refine ⟨w,?_,up _ _ h6⟩;have hne:y≠x:=fun q=>hj (by subst q;exact F.nd j i y _ _ h1 hi)
        show (if y=x then v else mh y)=some w;rw[if_neg hne];exact h5
    . refine qap (F.cell j y kd h1 h2) ?_;intro c ov h5 h6 h7 h8 h9;have hc:c≠env.locals:=fun q=>by subst q;rw[hL] at h7;obtain rfl:=Sj h7;cases hLd
      refine ⟨c,ov,h5,h6,(hs.2 c hc).trans h7,h8,fun av' q=>?_⟩;have hj:j≠i:=fun q=>by subst q;rw[hi] at h1;cases h1;cases h2
      rw[Bl (BH hj)] at q;refine qa5 (h9 av' q) ?_;intro w h10 h11;exact ⟨w,h10,up _ _ h11⟩
    . refine F.pl.imp id fun q j av' h=>?_
      by_cases hj:j=i
      . subst hj;by_cases hl:j<m.length
        . rw[Bs hl] at h;cases h
        . rw[BK (by rw[A5];simp_all)] at h;cases h
      . rw[Bl (BH hj)] at h;exact q j av' h
theorem Fly.priv {h0a:Heap}{e:Addr}{us:List Value}(y:Fly W fr g σ h0a false e X us s)(hX:X ≠ "code")(hX2:X ≠ "frame"):
    ∃t oe vs ot nt,s.heap.get? e=some oe/\oe.cls=.type X/\oe.data=.fields vs/\vs[0]?=some (.ref t)/\s.heap.get? t=some ot/\ot.cls=.type "tuple"/\ot.data=.seq us.toArray nt/\Priv W g s.heap e/\Priv W g s.heap t:=by
  refine qbm (y.it) ?_;intro FR s0 B eq_14_3 hg ho hsub R hc hu hB hk;subst eq_14_3;have fresh:∀{a o},B.get? a=none->s.heap.get? a=some o->(∀es n,o.data≠.dict es n)->s0.heap.get? a=none:=fun {a o} hb hs hd=>by
    cases q:s0.heap.get? a with
    | none=>rfl
    | some o'=>
      exfalso
      by_cases hf:∃en∈FR,en.frame=some a
      . refine qa5 (hf) ?_;intro en hen hfa;refine qcq (R.frs en hen) ?_;intro f o2 es ep h1 h2 h3 _;rw[hfa] at h1;obtain rfl:=Sj h1;obtain ⟨sl,h4⟩:=hu a o2 h2 fun vs hv=>by rw[h3] at hv;cases hv
        rw[hs] at h4;obtain rfl:=Sj h4;exact hd _ _ h3
      . have:=hc a o' q fun en hen hfa=>hf ⟨en,hen,hfa⟩
        rw[hb] at this;cases this
  have pv:∀{a o},s0.heap.get? a=none->s.heap.get? a=some o->(∀es n,o.data≠.dict es n)->(∀v,o.data≠.cell v)->(∀vs,o.data=.fields vs->o.cls≠.type "code")->o.cls≠.type "frame"->Priv W g s.heap a:=fun {a o} h0 hs h1 h2 h3 h4=>
    ⟨R.newO h0,R.new1 h0,o,hs,h1,h2,h3,h4⟩
  rcases hk with ⟨q,_⟩ | ⟨_,t,ht,⟨ot,nt,t1,t2,t3⟩,hh⟩
  . cases q
  have he0:B.get? e=none:=by
    rcases hh with hf | ⟨L,env',rest,_,_,hh⟩
    . exact hf.2.1
    . exact hh.2.1
  obtain ⟨oe,ws,h1,h2,h3,h4⟩:∃oe vs,s.heap.get? e=some oe/\oe.cls=.type X/\oe.data=.fields vs/\vs[0]?=some (.ref t):=by
    rcases hh with hf | ⟨L,env',rest,he,hfr,hh⟩
    . exact hf.first
    . refine qhd (hh) ?_;intro _ _ _ oe ws T oT ts h1 ne_17_9 h3 _;obtain ⟨h2,h4⟩:=ne_17_9;exact ⟨oe,ws,h1,h2,h3,h4⟩
  have e0:=fresh he0 h1 (fun es n q=>by rw[h3] at q;cases q);have t0:=fresh ht t1 (fun es n q=>by rw[t3] at q;cases q);exact ⟨t,oe,ws,ot,nt,h1,h2,h3,h4,t1,t2,t3,pv e0 h1 (fun es n q=>by rw[h3] at q;cases q) (fun v q=>by rw[h3] at q;cases q) (fun _ _ q=>hX (by rw[h2] at q;simpa using q)) (fun q=>hX2 (by rw[h2] at q;simpa using q)),
    pv t0 t1 (fun es n q=>by rw[t3] at q;cases q) (fun v q=>by rw[t3] at q;cases q) (fun _ q=>by rw[t3] at q;cases q) (fun q=>by rw[t2] at q;simp at q)⟩
theorem qhm {v:Value}(hi:C.nm[i]?=some (x,.globalImplicit))(hg:C.W.mg x=none)(hv:C.W.mb x=some v)(R:Rep C.W fr g σ s)(F:Fra C env m g s.heap)(hQ:Q v s)(hd:autoParam ((x==("__debug__":Str))=false) ap1._auto_1):wpAny (model C.W.prog C.W.w) A (eval (.Name x p) env) Q E s:=by
  refine qa5 (F.names i x _ hi) ?_;intro k' h9 h10;exact Ff (qbg F.kind h9 h10 (Calls.loadGlobal_builtin (mg:=C.W.mg) (mb:=C.W.mb) (by rw[F.glob];exact R.gNs) hg (by rw[F.blt];exact R.bNs) hv hQ)) hd
theorem qfg (hi:C.nm[i]?=some (x,.local))(ha:m[i]?=some (some av))(F:Fra C env m g s.heap)(hQ:∀v,RV C.W g s.heap av v->Q v s)(hd:autoParam ((x==("__debug__":Str))=false) ap1._auto_1):wpAny (model C.W.prog C.W.w) A (eval (.Name x p) env) Q E s:=by
  refine qa5 (F.ns) ?_;intro mh hn hm;refine qa5 (hm i x av hi ha) ?_;intro w h1 h2;refine qa5 (F.names i x _ hi) ?_;intro k' h3 h4;have:k'=.local:=by cases k' <;> first | rfl | (exact absurd h4 (by decide))
  subst this;exact Ff (EN F.kind h3 hn h1 (hQ w h2)) hd
theorem Idg {c:Str}{cp xp rp hp:Pos}{T:String}(hb:ExsR C k (env::outer) m σ body false X P m1 z1)(hX:X ≠ "code")(hX2:X ≠ "frame")(hexc:E9 (.type T) (.type "BaseException")=pure true)(hnt:E9 (.type ((Manifest.find? T).elim "type" fun x=>x.metatype)) (.type "tuple")=pure false)(hsub:E9 (.type X) (.type T)=pure true)(hc:C.nm[i]?=some (c,.globalImplicit))(hg:C.W.mg c=none)(hv:C.W.mb c=some (.type T))(hx:C.nm[j]?=some (x,.local))(ha:m1[j]?=some (some v))(hd:autoParam ((c==("__debug__":Str))=false) ap1._auto_1)(hd':autoParam ((x==("__debug__":Str))=false) ap1._auto_1):
    ExF C k env outer m σ (.Try body [.ExceptHandler (some (.Name c cp)) none [.Return (some (.Name x xp)) rp] hp] [] [] p) (.ret v) m1 z1:=fun A g s rm R F Q E hQ=>by
  refine wpAny_Try_except (hb A env outer g s rfl rm R F _ _ fun e g' h0a us s' hp e1a F1 y=>?_);refine y.note rm.frames fun s2 y2=>y2.land fun s3 y3=>?_
  refine wpAny_handleBy_builtin (X:=X) (T:=T) (b:=true) hexc hnt hsub ?_;have F3:=F1.up y3.rep.2;refine qgq (y3.priv hX hX2) ?_;intro t oe vs ot nt h1 h2 h3 _;refine qhm hc hg hv y3.rep.1 F3 ⟨rfl,⟨oe,h1,h2⟩,?_⟩ hd;refine y3.again fun s4 y4=>?_
  refine AD ?_ y4.rep;intro R4 e4;have F4:=F1.up e4;refine Cq (wpAny_Return_some (qfg hx ha F4 (fun v' rv=>?_) hd'));exact hQ _ g' s4 R4 (e1a.trans e4.no.toX) F4 ⟨v',rfl,rv⟩
theorem Idf {c sn:Str}{cp np np2 xp sp tp ip hp cp2 cmp:Pos}{rest:List Stmt}{l:Nat}{msg:Str}(hb:ExsR C k (env::outer) m σ body false "ValueError" (fun us=>∃t,us=[.str msg t]) m1 z1)(hc:C.nm[i]?=some (c,.globalImplicit))(hg:C.W.mg c=none)(hv:C.W.mb c=some (.type "ValueError"))(hx:C.nm[j]?=some (x,.local))(hl:j<m1.length)(hs:C.nm[l]?=some (sn,.globalImplicit))(hsg:C.W.mg sn=none)(hsv:C.W.mb sn=some (.type "str"))(hd:autoParam ((c==("__debug__":Str))=false) ap1._auto_1)(hd':autoParam ((x==("__debug__":Str))=false) ap1._auto_1)(hd2:autoParam ((sn==("__debug__":Str))=false) ap1._auto_1):
    ExF C k env outer m σ (.Try body [.ExceptHandler (some (.Name c cp)) (some x) [.If (.Compare (.Call (.Name sn np) [.Name x np2] [] cp2) [.NotEq] [.Constant (.str msg) n sp] cmp) rest [] ip] hp] [] [] p) .next (m1.set j none) z1:=fun A g s rm R F Q E hQ=>by
  refine wpAny_Try_except (hb A env outer g s rfl rm R F _ _ fun e g' h0a us s' hp e1a F1 y=>?_);refine Aq hp ?_;intro t0 eq_0_1;subst eq_0_1;refine y.note rm.frames fun s2 y2=>y2.land fun s3 y3=>?_
  refine wpAny_handleBy_builtin_as (X := "ValueError") (T := "ValueError") (b:=true) PySem.F.isExc_ValueError PySem.F.notTuple_ValueError (by rw[BU];kernel_rfl) ?_;have F3:=F1.up y3.rep.2;refine qgq (y3.priv (by decide) (by decide)) ?_;intro t oe vs ot nt h1 h2 h3 _;refine qhm hc hg hv y3.rep.1 F3 ⟨rfl,⟨oe,h1,h2⟩,?_⟩ hd;refine y3.again fun s4 y4=>?_
  refine AD ?_ y4.rep;intro R4 e4;have F4:=F1.up e4;refine qfz (y4.priv (by decide) (by decide)) ?_;intro t oe vs ot nt h1 h2 h3 h4 h5 h6 h7 pe pt;refine qbt (av:=.glob (.ref e)) hx (.inl rfl) R4 F4 rfl fun g5 s5 R5 e5 F5=>?_
  have k1:=(Priv.keep F4 (e5.toY) pe h1).1;have k2:=(Priv.keep F4 (e5.toY) pt h5).1;refine Cq (wpAny_If (wpAny_isTrue_Compare1 (Ec (qhm hs hsg hsv R5 F5 ?_ hd2)) (by with_unfolding_all rfl)));refine PyProof.Rows.callWith_type (by rfl) (PySem.Calls.evalArgs_plain (Calls.spliced_cons (qfg hx (by rw[Bs hl]) F5 (fun v' rv=>Calls.spliced_nil ?_) hd')));obtain rfl:v'=.ref e:=rv;refine PySem.P.str_of_exc_one PySem.F.excStr_ValueError (m:=msg) (tk:=t0) (t0:=t) ?_ ⟨oe,vs,k1,h2,h3,h4⟩ ⟨ot,nt,k2,h6,h7⟩ ?_
  . have:=rm.units;show A.units+2<cLine;have:cLine=9900:=rfl;lia
  refine Calls.Constant_str (PyProof.Rows.ne_str (DG ?_));rw[show (msg != msg)=false by simp];refine EU (EU (Aa (Cy ?_)));have R5':=R5.tok (s5.toks+1);refine qbt (av:=.none) (s:={ s5 with toks:=s5.toks+1 }) hx (.inl rfl) R5' F5 rfl fun g6 s6 R6 e6 F6=>?_
  refine qi0 hx (by rw[Bs (by rw[A5];exact hl)]) R6 F6 fun g7 s7 R7 e7 F7=>?_
  rw[Db,Db] at F7;exact hQ _ g7 s7 R7 (((((e1a.trans e4.no.toX).trans e5.toY).trans e6.toY).trans e7.toY)) F7 rfl
end
end
section
open PySem.Builtin PySem.Builtin.ObjectAttr
theorem md_slot:Slot "method_descriptor" "__get__" "method_descriptor.__get__":=
  .of (owner := "method_descriptor") (n := "__get__") (by rw[CC,BM];kernel_rfl) (by decide +kernel) (by decide +kernel) (by decide +kernel)
    (by first | exact .inl (by decide +kernel) | exact .inr (by decide +kernel)) (by rw[BU];kernel_rfl)
theorem qpc:GA table "method_descriptor.__get__"=some AA.«method_descriptor.__get__»:=entryFor_of_tree (by kernel_rfl)
theorem qrc (a b c:Value):Ga "method_descriptor.__get__" ⟨[a,b,c],[]⟩:=by unfold Ga;kernel_rfl
theorem qrb (x:Addr):∃t:Sem Unit,AA.«method_descriptor.__get__» ⟨[.builtin "list.append",.ref x,.type "list"],[]⟩=((isInstance (.ref x) (.type "list") >>= fun b=>if (!b)=true then t else pure ()) >>= fun _=>(newFields "builtin_function_or_method" [.builtin "list.append",.ref x] >>= fun v=>ret v)):=⟨_,rfl⟩
theorem qra (s:Al):s.TypeIs (.builtin "list.append") "method_descriptor":=by
  show typeOf (.builtin "list.append")=pure (.type "method_descriptor");first | rfl | decide +kernel | kernel_rfl
theorem qt7:AW (.type "method_descriptor") "__set__"=pure none:=by rw[CC,BM];kernel_rfl
theorem qt8:AW (.type "method_descriptor") "__delete__"=pure none:=by rw[CC,BM];kernel_rfl
theorem qne:builtinKind "list.append"=some .method:=by decide +kernel
theorem qfc:AW (.type "list") "append"=pure (some (.builtin "list.append")):=PySem.F.slot_list_append.lookup
section
set_option maxHeartbeats 1000000 in
theorem qls {g:Array Fo}{d:Drawn}{t:Nat}{x:Addr}{vs:Array Value}{expr:Bool}(hx:h.get? x=some (qaa vs n))(hq:∀tk,Q (.ref h.objs.size) ⟨h.push (qol "list.append" (.ref x)),g,d,tk,os⟩):wpAny (model prog w) A (GW (.ref x) "append" expr) Q E ⟨h,g,d,t,os⟩:=by
  have hT:∀tk',(⟨h,g,d,tk',os⟩:Al).TypeIs (.ref x) "list":=fun _=>⟨_,hx,rfl⟩
  have f3:=PySem.F.slot_list_getattribute.lookup;have f4:=PySem.F.slot_list_getattribute.bind (.ref x);have f5:=am_list_getattr_none;have f6:=qfc;unfold GW;refine Aa ?_;repeat (any_goals (first | assumption | exact hT _ | wp_step))
  rw[if_neg (by cases expr <;> simp[onTheHeap])];repeat (any_goals (first | assumption | exact hT _ | wp_step))
  refine qez (S:=fun A' R s'=>s'.heap.get? x=some (qaa vs n)/\∀tk,R (.ok (.ret (.ref s'.heap.objs.size))) { s' with heap:=s'.heap.push (qol "list.append" (.ref x)),toks:=tk }) PySem.F.slot_list_getattribute (hT _) Fp (PySem.F.args_list_getattribute_2 _ _) (Meets.of_wp fun prog w A R s hs=>?_) ?_
  . obtain ⟨hp,g,d,tk,os⟩:=s;refine AD ?_ hs;intro hx hs;have hT:(⟨hp,g,d,tk,os⟩:Al).TypeIs (.ref x) "list":=⟨_,hx,rfl⟩
    unfold AA.«object.__getattribute__»;have k1:=qne;have k2:=md_slot.lookup;have k3:=qt7;have k4:=qt8;have k5:=md_slot.bind (.builtin "list.append");repeat (any_goals (first | assumption | (rw[k1];show wpAny _ _ (AW (.type "method_descriptor") _) _ _ _) | wp_step))
    refine Cz md_slot.plain qpc (md_slot.check _ _ _ _ _ _ _ _ (qra _) (qrc _ _ _) ?_);refine Aq (qrb x) ?_;intro t ht;show wpAny _ _ (AA.«method_descriptor.__get__» _) _ _ _;rw[ht];refine Aa (Aa (FW (T := "list") (b:=true) hT (by rw[BU];kernel_rfl) (Ag ?_)));unfold newFields;repeat (any_goals (first | assumption | wp_step))
    exact ⟨_,rfl,hs tk⟩
  . exact ⟨hx,fun tk=>Ag (hq tk)⟩
end
end
section
theorem qud:∃sig,DV "list.append"=some sig/\∀(a x:Value),GE "list.append" { sig with full:=s!"{Bind.lastOf "list"}.{Bind.lastOf "list.append"}" } ⟨[a,x],[]⟩=pure ():=by
  cases h:DV "list.append" with
  | none=>exact absurd (show (DV "list.append").isSome=true by decide +kernel) (by rw[h];simp)
  | some sig=>
    refine ⟨sig,rfl,fun a x=>?_⟩;have hs:sig=(match DV "list.append" with | some s=>s | none=>sig):=by rw[h]
    rw[hs]
    kernel_rfl
theorem quc:Manifest.varargsMethods.contains "list.append"=false:=by decide +kernel
section
theorem qka {l:Addr}{x:Value}{vs:Array Value}{Q:Unit->Al->Prop}(hl:s.heap.get? l=some (qaa vs n))(hQ:Q () s):wpAny (model prog w) A (checkBoundCall "list.append" ⟨[.ref l,x],[]⟩) Q E s:=by
  refine qa5 (qud) ?_;intro sig h1 h2;have hT:s.TypeIs (.ref l) "list":=⟨_,hl,rfl⟩
  unfold checkBoundCall;rw[h1,qne];simp only[bne_self_eq_false,Cv,AY,if_false,quc,FK];refine Aa (FW (T := "list") (b:=false) hT qdg ?_);rw[if_neg (by simp)];obtain ⟨h,g,d,t,os⟩:=s;repeat (any_goals ((fail_if_success (with_reducible show wpAny _ _ (GE _ _ _) _ _ _));first | assumption | wp_step))
  show wpAny _ _ (GE "list.append" { sig with full:=s!"{Bind.lastOf "list"}.{Bind.lastOf "list.append"}" } ⟨[.ref l,x],[]⟩) _ _ _;rw[h2];exact Ag hQ
theorem qm4 {b l:Addr}{x:Value}{vs:Array Value}{S:PySem.Spec}(hb:s.heap.get? b=some (qol "list.append" (.ref l)))(hl:s.heap.get? l=some (qaa vs n))(hm:Meets (AA.«list.append» ⟨[.ref l,x],[]⟩) S)(hQ:S A (fun r s'=>match r with | .ok (.ret v)=>Q v s' | .ok _=>False | .error e=>E e s') s):
    wpAny (model prog w) A (call (.ref b) [x]) Q E s:=by
  refine EJ (Dy ?_);show wpAny _ A.in1 (callAny (.ref b) ⟨[x],[]⟩) _ _ s;simp only[callAny];refine Aa (EG hb ?_);simp only[];rw[if_pos (by decide)];have hv0:(#[Value.builtin "list.append",Value.ref l])[0]?=some (.builtin "list.append"):=rfl;have hv1:(#[Value.builtin "list.append",Value.ref l])[1]?=some (.ref l):=rfl;rw[hv0,hv1];simp only[];rw[if_pos (by decide)];refine Aa (qka hl (Ag ⟨plainId_quiet PySem.F.slot_list_append.plain _,codeAny_builtin PySem.F.entry_list_append (hm prog w _ _ s hQ)⟩))
end
section
theorem Ev.bound (he:Ev C k fr m σ e (.loc n) z')(hn:z'[n]?=some (.lst l))(hb:autoParam (∀env w,attributeBase e "append" env w=w) ap0._auto_1):
    Ev C k fr m σ (.Attribute e "append" p) (.bound "list.append" (.loc n)) z':=fun A env g s rm R F Q E hQ=>by
  rw[arm_eval_Attribute,hb];refine Aa (he A env g s rm R F _ _ fun va g1 s1a R1 e1a ra=>?_);refine qa2 (qhf R1 hn ra) ?_;intro a vs nn eq_2_3 hg ho hr;subst eq_2_3;obtain ⟨h,gs,d,t,os⟩:=s1a;refine Aa (AP (Aa (AK (qls ho fun tk=>?_))));refine Aa (wpAny_letTemporaryGo (Ag ?_));refine AD ?_ ((R1.tok tk).newFz (qol "list.append" (.ref a)));intro R2 e2a;exact hQ _ _ _ R2 (e1a.trans e2a.no) ⟨_,.ref a,rfl,qa4,Ar _ rfl,a,rfl,e2a.loc a n hg⟩
theorem Calls.bound (hn:σ[n]?=some (.lst l))(hY:Y n)(hp:plain v=true)(hz:l.length<=Ai):Calls W Y k fr σ (.bound "list.append" (.loc n)) [v] [] [] .none (σ.set n (.lst (l++[v]))):=fun A g s vf us ks rm R rf ru rk Q E hQ=>by
  refine qn6 (rf) ?_;intro b sv eq_5_2 hgb hob a eq_5_6 hga;subst eq_5_2;subst eq_5_6;refine qa1 (ru) ?_;(try clear ru);intro u q eq_6_2 ru rq;subst eq_6_2;obtain rfl:q=[]:=rq;obtain rfl:ks=[]:=rk;refine qa2 (qhf R hn ⟨a,rfl,hga⟩) ?_;intro a' vs nn e hg ho hr;cases e
  have e1:vs.size=l.length:=by rw[<- AC,hr.length]
  have hpl:plains l=true:=R.pl n _ hn;refine AD ?_ (R.updList (f:=fun xs=>xs.push u) (l':=l++[v]) s.toks hn hg ho (by rw[C8];exact hr.append (show RVs W g s.heap [v] [u] from ⟨u,[],rfl,ru,rfl⟩)) (by rw[qal,hpl];show (true&&(plain v&&true))=true;rw[hp];rfl));intro R' e';exact qm4 hob ho (list_append a vs nn u (by rw[e1];exact hz)) ⟨ho,hQ _ _ _ R' (e'.toN hY) rfl⟩
end
end
section
theorem qk1:GA table "iter"=some AA.«iter»:=FU (by kernel_rfl)
theorem qga:GA table "next"=some AA.«next»:=FU (by kernel_rfl)
theorem qma (a:Value):Ga "iter" ⟨[a],[]⟩:=by unfold Ga;kernel_rfl
theorem qh3 (a:Value):Ga "next" ⟨[a],[]⟩:=by unfold Ga;kernel_rfl
section
theorem qnt {l:Addr}{vs:Array Value}(hl:s.heap.get? l=some (qaa vs n))(hQ:Q (.ref s.heap.objs.size) { s with heap:=s.heap.push { cls:=.type "list_iterator",data:=.fields #[.ref l,.int 0 0] } }):
    wpAny (model prog w) A (call (.builtin "iter") [.ref l]) Q E s:=by
  refine PySem.Calls.call_function_entry (by decide +kernel) (by decide +kernel) qk1 (qma _) ?_;unfold AA.«iter»;refine Aa (m:=someArgs "iter" 1 2 _) (GF (a:=[Value.ref l]) (by first | rfl | kernel_rfl!) ?_);show wpAny _ _ (GP (.ref l) >>= _) _ _ _;exact Aa (wpAny_pyIter_list (qav hl) (Ag ⟨_,rfl,hQ⟩))
theorem qnd {it l:Addr}{vs:Array Value}{x:Value}(hit:s.heap.IsListIter it l i)(hl:s.heap.get? l=some (qaa vs n))(hx:vs[i]?=some x)(hQ:∀h',h'.IsListIter it l (i+1)->AQ it s.heap h'->Q x { s with heap:=h' }):wpAny (model prog w) A (call (.builtin "next") [.ref it]) Q E s:=by
  refine PySem.Calls.call_function_entry (by decide +kernel) (by decide +kernel) qga (qh3 _) ?_;unfold AA.«next»;refine Aa (m:=someArgs "next" 1 2 _) (GF (a:=[Value.ref it]) (by first | rfl | kernel_rfl!) ?_);dsimp only;refine Aa (Dz (name:=BP "__next__") hit.typeIs CT.lookup ?_);refine wpAny_ite_split (fun hab=>absurd hab (by decide)) (fun _=>?_);refine qaj (id hit) ?_;intro o ho hc hd;refine Aa (wpAny_callSpecial?_slot (name:=BP "__next__") hit.typeIs CT
    (FT CT hit.typeIs entry_listiter_next ?_ (args_listiter_next _)))
  show wpAny _ _ (field (.ref it) 0 >>= _) _ _ s;refine Aa (Eg ho hd (x:=.ref l) rfl ?_);show wpAny _ _ (if (Value.ref l==Value.none)=true then _ else _) _ _ s;rw[if_neg (show ¬((Value.ref l==Value.none)=true) from Bg)];show wpAny _ _ (field (.ref it) 1 >>= _) _ _ s;refine Aa (Eg ho hd (x:=.int i 0) rfl ?_);show wpAny _ _ (seqItems? (.ref l) >>= _) _ _ s;refine Aa (GG hl rfl ?_);simp only[Int.toNat_natCast,hx];refine Aa (GD ho hd (by simp) (Ag ⟨x,rfl,Ag ⟨x,rfl,hQ _ ?_ (Bj ..)⟩⟩));exact ⟨_,Bc _ ho (Ew (Dx hd _)),(Obj.cls_mapFields ..).trans hc,by
    rw[Dx hd];simp[Dj]⟩
theorem qnc {it l:Addr}{vs:Array Value}(hh:A.handled=none)(hit:s.heap.IsListIter it l i)(hl:s.heap.get? l=some (qaa vs n))(hx:vs[i]?=none)(hE:∀h' h'' e,AQ it s.heap h'->(∃o,h'.get? it=some o)->GC h' h'' e (.type "StopIteration") []->E (.ref e) { s with heap:=h'' }):wpAny (model prog w) A (call (.builtin "next") [.ref it]) Q E s:=by
  refine PySem.Calls.call_function_entry (by decide +kernel) (by decide +kernel) qga (qh3 _) ?_;unfold AA.«next»;refine Aa (m:=someArgs "next" 1 2 _) (GF (a:=[Value.ref it]) (by first | rfl | kernel_rfl!) ?_);dsimp only;refine Aa (Dz (name:=BP "__next__") hit.typeIs CT.lookup ?_);refine wpAny_ite_split (fun hab=>absurd hab (by decide)) (fun _=>?_);refine qaj (id hit) ?_;intro o ho hc hd;refine Aa (wpAny_callSpecial?_slot (name:=BP "__next__") hit.typeIs CT
    (FT CT hit.typeIs entry_listiter_next ?_ (args_listiter_next _)))
  show wpAny _ _ (field (.ref it) 0 >>= _) _ _ s;refine Aa (Eg ho hd (x:=.ref l) rfl ?_);show wpAny _ _ (if (Value.ref l==Value.none)=true then _ else _) _ _ s;rw[if_neg (show ¬((Value.ref l==Value.none)=true) from Bg)];show wpAny _ _ (field (.ref it) 1 >>= _) _ _ s;refine Aa (Eg ho hd (x:=.int i 0) rfl ?_);show wpAny _ _ (seqItems? (.ref l) >>= _) _ _ s;refine Aa (GG hl rfl ?_);simp only[Int.toNat_natCast,hx];refine Aa (GQ (Aa (GD ho hd (by simp) ?_)));show wpAny _ _ (newExc (.type "StopIteration") [] >>= _) _ _ _;refine Aa ?_;simp only[newExc,newTuple];refine Aa (BO ?_ (by size_fits));refine Aa (m:=firstArgMember _ _) (GF (a:=Value.none) (by first | rfl | (simp only[firstArgMember];rfl)) ?_);refine BO ?_ (by size_fits);simp only[raiseNew];refine Aa (wpAny_handled ?_);first | rw[show A.in1.in1.handled=none from hh] | rw[show A.in1.handled=none from hh] | rw[hh]
  refine Aa (Ag (wpAny_throw ?_));refine hE _ _ _ (Bj ..) ⟨_,Bc _ ho (Ew (Dx hd _))⟩ ⟨fun b o q=>Au _ (Au _ q),?_,⟨_,Ar _ rfl,?_,Au _ (Ar _ rfl)⟩⟩
  . exact Cw (by rw[Heap.size_push];exact DM _)
  . exact qai _
end
section
theorem Id8 (hp:plains l=true):Calls W Y k fr σ (.glob (.builtin "iter")) [.lst l] [] [] (.loc σ.length) (σ++[.iter l]):=fun A g s vf us ks rm R rf ru rk Q E hQ=>by
  obtain rfl:vf=.builtin "iter":=rf;refine qa1 (ru) ?_;intro u q eq_2_2 ne_2_3 rq;subst eq_2_2;refine qa2 ne_2_3 ?_;intro a vs n eq_0_3 hg ho hr;subst eq_0_3;obtain rfl:q=[]:=rq;obtain rfl:ks=[]:=rk;have e2a:Evo W noX noY g s.heap (qc6 g s.heap.objs.size (.loc σ.length)) (s.heap.push { cls:=.type "list_iterator",data:=.fields #[.ref a,.int 0 0] }):=R.pushEvo _ _;refine qnt ho ?_;refine AD ?_ (R.pushLoc { cls:=.type "list_iterator",data:=.fields #[.ref a,.int 0 0] } (ao:=.iter l) hp ⟨a,0,vs,n,⟨_,Ar _ rfl,rfl,rfl⟩,e2a.fz a hg (fun q=>q),Au _ ho,hr.up e2a⟩);intro R2 e3a;exact hQ _ _ _ R2 e3a.no ⟨_,rfl,qa4⟩
theorem qnu (R:Rep W fr g σ s)(hn:σ[n]?=some (.iter l))(ra:RV W g s.heap (.loc n) va):
    ∃(a la:Addr) (i:Nat) (vs:Array Value) (k:Nat),va=.ref a/\g a=.loc n/\s.heap.IsListIter a la i/\g la=.fz/\s.heap.get? la=some (qaa vs k)/\RVs W g s.heap l (vs.toList.drop i):=by
  refine qa5 (ra) ?_;intro a eq_4_1 hg;subst eq_4_1;refine qjk (R.locs n _ hn) ?_;intro a' hg' la i vs k h1 h2 h3 h4;have:a'=a:=R.uniq _ _ _ hg' hg;subst this;exact ⟨a',la,i,vs,k,rfl,hg,h1,h2,h3,h4⟩
theorem Ica (hn:σ[n]?=some (.iter (v::l)))(hY:Y n):Calls W Y k fr σ (.glob (.builtin "next")) [.loc n] [] [] v (σ.set n (.iter l)):=fun A g s vf us ks rm R rf ru rk Q E hQ=>by
  obtain rfl:vf=.builtin "next":=rf;refine qa1 (ru) ?_;(try clear ru);intro u q eq_6_2 ru rq;subst eq_6_2;obtain rfl:q=[]:=rq;obtain rfl:ks=[]:=rk;refine qfb (qnu R hn ru) ?_;intro a la i vs kk eq_7_5 hg hit hgl hl u r hd rv hr;subst eq_7_5;have hx:vs[i]?=some u:=by
    have:(vs.toList.drop i)[0]?=some u:=by rw[hd];rfl
    rw[Ea,Nat.add_zero,BL] at this;exact this
  have hd':vs.toList.drop (i+1)=r:=by rw[<- List.drop_drop,hd];rfl
  refine qnd hit hl hx fun h' hit' hs=>?_
  have hk:∀b o,s.heap.get? b=some o->g b≠.loc n->g b≠.aux n->h'.get? b=some o:=fun b o ho q _=>(hs.2 b (fun q'=>q (by rw[q'];exact hg))).trans ho
  have e:=Evo.setLoc (g':=g) R (n:=n) (fun b o ho=>rfl) hk;have hp:=R.pl n _ hn;have hp2:plains l=true:=by have:(plain v&&plains l)=true:=hp;rw[AG] at this;exact this.2
  have hne:la≠a:=fun q=>by rw[q,hg] at hgl;cases hgl
  refine hQ u g _ (R.setLoc (ao':=.iter l) s.toks hn (fun b o ho=>rfl) (fun b hb=>.inl (R.newO hb)) hk (fun b o ho hq=>?_) hp2 (fun b hb=>?_)) (e.toN hY) (rv.up e)
  . by_cases q:b=a
    . subst q;refine qa5 (hit') ?_;intro o' ho' _;exact ⟨o',ho'⟩
    . exact ⟨o,(hs.2 b q).trans ho⟩
  . have:b=a:=R.uniq _ _ _ hb hg;subst this;exact ⟨la,i+1,vs,kk,hit',hgl,(hs.2 la hne).trans hl,by rw[hd'];exact hr.up e⟩
theorem Icu (hn:σ[n]?=some (.iter []))(hY:Y n):CallsR W Y k fr σ (.glob (.builtin "next")) [.loc n] [] [] true "StopIteration" (fun us=>us=[]) (σ.set n .iterDone):=fun A g s vf us ks rm R rf ru rk Q E hE=>by
  obtain rfl:vf=.builtin "next":=rf;refine qa1 (ru) ?_;(try clear ru);intro u q eq_9_2 ru rq;subst eq_9_2;obtain rfl:q=[]:=rq;obtain rfl:ks=[]:=rk;refine qic (qnu R hn ru) ?_;intro a la i vs kk eq_10_5 hg hit hgl hl hr;subst eq_10_5;have hx:vs[i]?=none:=by
    have:(vs.toList.drop i)[0]?=none:=by rw[(hr:vs.toList.drop i=[])];rfl
    rw[Ea,Nat.add_zero,BL] at this;exact this
  refine qnc rm.handled hit hl hx fun h' h'' e hs hex hm=>?_
  have hk:∀b o,s.heap.get? b=some o->g b≠.loc n->g b≠.aux n->h'.get? b=some o:=fun b o ho q _=>(hs.2 b (fun q'=>q (by rw[q'];exact hg))).trans ho
  have ev:=Evo.setLoc (g':=g) R (n:=n) (fun b o ho=>rfl) hk;have R':=R.setLoc (g':=g) (h':=h') (ao':=.iterDone) s.toks hn (fun b o ho=>rfl) (fun b hb=>.inl (R.newO hb)) hk (fun b o ho hq=>by
    by_cases q:b=a
    . subst q;exact hex
    . exact ⟨o,(hs.2 b q).trans ho⟩) rfl (fun b hb=>trivial)
  exact hE e g h' [] _ rfl (ev.toN hY) (Ida R' hm rfl rfl)
end
end
section
section
variable {K:Type} [DecidableEq K] {knd:KeyKind prog w K}
theorem qhq {d:Addr}{kvs:List (K×Value)}{k:K}{key v:Value}{Q:Unit->Al->Prop}(hkey:knd.is k key=true)(hm:s.heap.DictOf knd d kvs)(hQ:∀h',h'.DictOf knd d (GR kvs k v)->AQ d s.heap h'->Q () { s with heap:=h' })(hsz:kvs.length<=Ai):wpAny (model prog w) A (dictPut d (knd.hash k) key v) Q E s:=by
  refine qb5 (hm) ?_;intro o es ep ho hc hd hk hp hn;have hes:es.size<=Ai:=by
    have e1:=hp.length;have e2:es.toList.length=es.size:=by rfl
    simp_all
  unfold dictPut;refine Aa (wpAny_dictFind_of hkey ho hd hk ?_);have hidx:(es.findIdx? fun e=>knd.is k e.key)=kvs.findIdx? fun kv=>decide (kv.1=k):=by
    rw[<- hp.findIdx k];obtain ⟨l⟩:=es;simp
  cases hi:es.findIdx? fun e=>knd.is k e.key with
  | some i=>
    refine wpAny_updateDict ho hd (hQ _ ⟨_,_,ep,Bc _ ho (Obj.isFreed_of_dict (Obj.data_mapDict hd _)),
      hc.mapDict _,Obj.data_mapDict hd _,hk.modify _ _,?_,?_⟩ (Bj ..))
    . rw[GR,if_pos (any_of_findIdx_some (hidx ▸ hi))];have hl:(es.toList.findIdx? fun e=>knd.is k e.key)=some i:=by rw[<- hi];obtain ⟨l⟩:=es;simp
      have:=hp.modify hn hl v;obtain ⟨l⟩:=es;simpa using this
    . rw[GR,if_pos (any_of_findIdx_some (hidx ▸ hi)),keys_map_store];exact hn
  | none=>
    have hnot:k∉kvs.map (·.1):=not_mem_of_findIdx_none (hidx ▸ hi);have hany:¬(kvs.any fun kv=>decide (kv.1=k))=true:=by
      rw[EI];rintro ⟨kv,hkv,he⟩;exact hnot (Br.mpr ⟨kv,hkv,of_decide_eq_true he⟩)
    refine wpAny_updateDictKeys (hz:=hes) ho hd (hQ _ ⟨_,_,ep+1,Bc _ ho (Obj.isFreed_of_dict (Obj.data_mapDictKeys hd _)),
      hc.mapDictKeys _,Obj.data_mapDictKeys hd _,hk.push hkey _,?_,?_⟩ (Bj ..))
    . rw[GR,if_neg hany];have:=hp.append hkey (knd.hash k) v;obtain ⟨l⟩:=es;simpa using this
    . rw[GR,if_neg hany,A0,FF];refine ⟨hn,by simp,?_⟩;intro a ha b hb;simp only[Bz,List.map_nil,AL] at hb;subst hb;exact fun e=>hnot (e ▸ ha)
end
section
theorem qgs {d o:Addr}{kvs more:List (Str×Value)}{oo:Obj}{eso:Array CY}{epo:Nat}{Q:PUnit->Al->Prop}(hdo:d≠o)(hdo':oo.data=.dict eso epo)(hko:KeysOf (PySem.strKind prog w) eso)(hpo:Pairs (PySem.strKind prog w) eso.toList more)(hlen:more.length=eso.size)(hsz:kvs.length+more.length<=Ai)(f:Nat->PUnit->Sem (ForInStep PUnit))(hf:∀i u,f i u=(do
      let some e:=(<- dictEntries o)[i]? | GH "dict.changed-during-merge";pure (Ca ⟨⟩)
      DQ [e.key,e.val] (dictPut d e.hash e.key e.val)
      if (<- dictEpoch o) != epo then GH "dict.changed-during-merge";pure (Ca ⟨⟩) else pure (Ca ⟨⟩))):∀(n i:Nat) (s:Al),i+n=eso.size->s.heap.DictOf (PySem.strKind prog w) d (GB kvs (more.take i))->s.heap.get? o=some oo ->
    (∀h',h'.DictOf (PySem.strKind prog w) d (GB kvs more)->AQ d s.heap h'->Q ⟨⟩ { s with heap:=h' })->wpAny (model prog w) A (forIn (CI i n) Ce f) Q E s
  | 0,i,s,hi,hd,hoo,hQ=>by
    rw[List.range'_zero,Dh];have:i=more.length:=by simp_all
    subst this;rw[FY] at hd;exact Ag (hQ s.heap hd (AQ.refl _ _))
  | n+1,i,s,hi,hd,hoo,hQ=>by
    have hlt:i<eso.size:=by lia
    rw[List.range'_succ,Cj,hf];obtain ⟨kv,hkv⟩:∃kv,more[i]?=some kv:=⟨more[i]'(by rw[hlen];exact hlt),Ad _⟩
    obtain ⟨k,v⟩:=kv;refine AD ?_ (hpo.get? (e:=eso[i]) (by simp[hlt]) hkv);intro hkey hval;refine qa5 (hko eso[i] (Array.getElem_mem hlt)) ?_;intro k' hkey' hhash;obtain rfl:k'=k:=(PySem.strKind prog w).inj _ _ _ hkey' hkey;have hmx:(GB kvs (more.take i)).length<=Ai:=by
      have e1:=merged_length_le kvs (more.take i);have e2:(more.take i).length<=more.length:=by rw[Df];grind
      lia
    refine Aa (Aa (Er hoo hdo' ?_));rw[CV hlt];show wpAny _ _ (DQ [eso[i].key,eso[i].val] (dictPut d eso[i].hash eso[i].key eso[i].val) >>= _) _ _ _;rw[hhash,hval];refine Aa (AK (qhq (hsz:=hmx) hkey hd fun h'' hd'' hs''=>?_));have hoo'':h''.get? o=some oo:=(hs''.2 o (BH hdo)).trans hoo;refine Aa (wpAny_dictEpoch hoo'' hdo' ?_);rw[if_neg (by simp)];refine Ag ?_;refine qgs hdo hdo' hko hpo hlen hsz f hf n (i+1) _ (by lia) (by rw[merged_take_succ kvs more i (k',v) hkv];exact hd'') hoo'' fun h' h1 h2=>hQ h' h1 (hs''.trans h2)
theorem qig {d o:Addr}{kvs more:List (Str×Value)}{Q:Unit->Al->Prop}(hdo:d≠o)(hoS:(o==Cp)=false)(hd:s.heap.DictOf (PySem.strKind prog w) d kvs)(ho:s.heap.DictOf (PySem.strKind prog w) o more)(hQ:∀h',h'.DictOf (PySem.strKind prog w) d (GB kvs more)->AQ d s.heap h'->Q () { s with heap:=h' })(hsz:kvs.length+more.length<=Ai):wpAny (model prog w) A (Gf d (.ref o) false) Q E s:=by
  refine qb5 (id hd) ?_;intro od esd epd hod hcd hdd hkd hpd hnd;refine qb5 (id ho) ?_;intro oo eso epo hoo hco hdo' hko hpo hno;have hT:s.TypeIs (.ref o) "dict":=⟨oo,hoo,hco.1⟩
  have hlen:more.length=eso.size:=by rw[<- hpo.length];simp
  unfold Gf;refine Aa (FW (T := "dict") (b:=true) hT (by rw[BU];kernel_rfl) ?_);rw[if_pos rfl];refine Aa (Dz (name:=BP "__iter__") hT PySem.F.slot_dict_iter.lookup (Aa (Ag ?_)));simp only[beq_self_eq_true];rw[if_neg (by rw[hoS];exact Bg)];refine Aa (Er hod hdd ?_);have main:wpAny (model prog w) A (do
      let size:=(<- dictEntries o).size
      let epoch <- dictEpoch o
      forIn (Ac size) Ce fun i _=>(do
        let some e:=(<- dictEntries o)[i]? | GH "dict.changed-during-merge";pure (Ca ⟨⟩)
        DQ [e.key,e.val] (dictPut d e.hash e.key e.val)
        if (<- dictEpoch o) != epoch then GH "dict.changed-during-merge";pure (Ca ⟨⟩) else pure (Ca ⟨⟩):Sem (ForInStep PUnit))
      pure ()) Q E s:=by
    refine Aa (Er hoo hdo' ?_);refine Aa (wpAny_dictEpoch hoo hdo' ?_);refine Aa ?_;rw[List.range_eq_range'];exact qgs hdo hdo' hko hpo hlen hsz _ (fun _ _=>rfl) eso.size 0 s (by simp +arith) (by simpa [GB] using hd) hoo fun h' h1 h2=>Ag (hQ h' h1 h2)
  split
  . refine Aa (Er hoo hdo' ?_);rw[<- Array.forIn_toList];rw[forIn_yield_id Ce (fun e he c=>by
      refine qa5 (hko e (by simpa using he)) ?_;intro k hk _;refine Aq (Value.isStrOf_shape hk) ?_;intro t ht;simp only[ht])]
    exact Aa (Ag main)
  . exact main
end
end
section
section
theorem qq4 {v1 v2:Sem Value}(h:wpAny (model prog w) A v1 (fun m1 s1=>wpAny (model prog w) A (Gf s.heap.objs.size m1 false) (fun _ s2=>wpAny (model prog w) A v2 (fun m2 s3=>
      wpAny (model prog w) A (Gf s.heap.objs.size m2 false) (fun _ s4=>Q (.ref s.heap.objs.size) s4) (fun _ _=>False) s3) E s2) (fun _ _=>False) s1) E { s with heap:=s.heap.push { cls:=.type "dict",data:=.dict #[] } }):
    wpAny (model prog w) A (dictDisplay [(none,v1),(none,v2)]) Q E s:=by
  unfold dictDisplay;refine Aa ?_;rw[Cj];refine Aa ?_;refine Aa (Ag ?_);refine Aa (Gx ?_);refine Aa (AK (AB h (fun m1 s1 h1=>?_) fun _ _ x=>x));refine Aa (DX (wpAny_tryCatch (DX (AK (AB h1 (fun _ s2 h2=>?_) fun _ _ x=>x.elim)))));refine Ag ?_;dsimp only;rw[Cj];refine Aa ?_;refine Aa (Ag ?_);refine Aa (Ag ?_);refine Aa (AK (AB h2 (fun m2 s3 h3=>?_) fun _ _ x=>x));refine Aa (DX (wpAny_tryCatch (DX (AK (AB h3 (fun _ s4 h4=>?_) fun _ _ x=>x.elim)))));refine Ag ?_;dsimp only;rw[Dh];refine Ag ?_;refine Aa (Ag (Ag h4))
end
def Dsrc (W:Wd) (σ:List AObj) (v:AV) (ks:List Str) (vs:List AV):Prop:=
  (∃n:Nat,v=.loc n/\σ[n]?=some (.dstr ks vs))\/(∃a,v=.glob (.ref a)/\ks=[]/\vs=[]/\W.s1.heap.DictOf (PySem.strKind W.prog W.w) a []/\¬W.tab a/\(a==Cp)=false)
theorem Dsrc.at {u:Value}(D:Dsrc W σ v ks vs)(R:Rep W fr g σ s)(r:RV W g s.heap v u):
    ∃a us,u=.ref a/\s.heap.DictOf (PySem.strKind W.prog W.w) a (ks.zip us)/\ks.length=us.length/\RVs W g s.heap vs us/\(a==Cp)=false/\(g a=.other->∃o,W.s1.heap.get? a=some o):=by
  rcases D with ⟨n,rfl,hn⟩ | ⟨a,rfl,rfl,rfl,hd,ht,hs⟩
  . refine qa5 (r) ?_;intro a eq_0_1 hg;subst eq_0_1;refine qde (R.locs n _ hn) ?_;intro a' hg' us h1 h2 h3;have:a'=a:=R.uniq _ _ _ hg' hg;subst this;exact ⟨a',us,rfl,h1,h2,h3,qev R hg,fun q=>by rw[hg] at q;cases q⟩
  . obtain rfl:u=.ref a:=r;rw[Ci] at hd;refine qa5 (hd) ?_;intro o ho q;exact ⟨a,[],rfl,Ci.mpr ⟨o,R.base a o ho ht,q⟩,rfl,rfl,hs,fun _=>⟨o,ho⟩⟩
noncomputable def qag:List Str->List AV->List Str->List AV->List Str×List AV
  | ks,vs,k::ks',v::vs'=>qag (qfm ks vs k v).1 (qfm ks vs k v).2 ks' vs'
  | ks,vs,_,_=>(ks,vs)
theorem qeu:∀{ks':List Str} {vs':List AV} {us':List Value} {ks:List Str} {vs:List AV} {us:List Value},ks.length=us.length->RVs W g h vs us->ks'.length=us'.length->RVs W g h vs' us' ->
    ∃ws,GB (ks.zip us) (ks'.zip us')=(qag ks vs ks' vs').1.zip ws/\(qag ks vs ks' vs').1.length=ws.length/\RVs W g h (qag ks vs ks' vs').2 ws
  | [],vs',us',ks,vs,us,h1,h2,h3,h4=>by
    have e:qag ks vs [] vs'=(ks,vs):=by cases vs' <;> rfl
    rw[e];exact ⟨us,rfl,h1,h2⟩
  | k::ks',[],us',ks,vs,us,h1,h2,h3,h4=>by obtain rfl:us'=[]:=h4;cases h3
  | k::ks',v::vs',us',ks,vs,us,h1,h2,h3,h4=>by
    refine qa1 (h4) ?_;intro u r eq_3_2 h5 h6;subst eq_3_2;refine qaj (qen (x:=k) h1 h2 h5) ?_;intro ws e1 e2 e3;refine qaj (qeu (ks':=ks') e2 e3 (by simpa using h3) h6) ?_;intro ws' f1 f2 f3;refine ⟨ws',?_,f2,f3⟩;show GB (GR (ks.zip us) k u) (ks'.zip r)=_;rw[e1];exact f1
theorem qdf:∀{ks':List Str} {vs':List AV} {ks:List Str} {vs:List AV},plains vs=true->plains vs'=true->plains (qag ks vs ks' vs').2=true
  | [],vs',ks,vs,h1,h2=>by
    have e:qag ks vs [] vs'=(ks,vs):=by cases vs' <;> rfl
    rw[e];exact h1
  | k::ks',[],ks,vs,h1,h2=>h1
  | k::ks',v::vs',ks,vs,h1,h2=>by
    have h':(plain v&&plains vs')=true:=h2;rw[AG] at h';show plains (qag (qfm ks vs k v).1 (qfm ks vs k v).2 ks' vs').2=true;exact qdf (qes h'.1 h1) h'.2
section
theorem Ie0 {y:Str}{a b:AV}{ks':List Str}{vs':List AV}(hx:C.nm[i]?=some (x,.local))(hy:C.nm[j]?=some (y,.local))(ha:m[i]?=some (some a))(hb:m[j]?=some (some b))(da:Dsrc C.W σ a ks vs)(db:Dsrc C.W σ b ks' vs')(hp:plains vs=true)(hp':plains vs'=true)(hz:ks.length+ks'.length<=Ai)(hd:autoParam ((x==("__debug__":Str))=false) ap1._auto_1)(hd':autoParam ((y==("__debug__":Str))=false) ap1._auto_1):
    Ev C k fr m σ (.Dict [none,none] [.Name x px,.Name y py] p) (.loc σ.length) (σ++[.dstr (qag (qag [] [] ks vs).1 (qag [] [] ks vs).2 ks' vs').1 (qag (qag [] [] ks vs).1 (qag [] [] ks vs).2 ks' vs').2]):=fun A env g s rm R F Q E hQ=>by
  rw[arm_eval_Dict];refine Aa (AP ?_);show wpAny _ A (dictDisplay [(none,do let v <- eval (.Name x px) env;Dd p;pure v),(none,do let v <- eval (.Name y py) env;Dd p;pure v)]) Q E s;refine qq4 ?_;have htop:=R.top;have hn0:s.heap.get? s.heap.objs.size=none:=qai _;refine AD ?_ (R.push { cls:=.type "dict",data:=.dict #[] } .other rfl (.inr rfl));intro R1 e1a;have hgo:qc6 g s.heap.objs.size .other=g:=by
    funext c
    by_cases hc:c=s.heap.objs.size
    . subst hc;rw[qa4,htop]
    . exact qa9 hc
  rw[hgo] at R1 e1a;have hn1:=R.new1 hn0;have hD:(s.heap.push { cls:=.type "dict",data:=.dict #[] }).DictOf (PySem.strKind C.W.prog C.W.w) s.heap.objs.size []:=⟨_,#[],0,Ar _ rfl,⟨rfl,rfl,rfl⟩,rfl,fun e he=>absurd he (by simp),.nil,by simp⟩
  have F1:=F.up e1a;have hDobj:(s.heap.push { cls:=.type "dict",data:=.dict #[] }).get? s.heap.objs.size=some { cls:=.type "dict",data:=.dict #[] }:=Ar _ rfl;have hX:XOk (·=s.heap.objs.size) g (s.heap.push { cls:=.type "dict",data:=.dict #[] }):=fun c hc=>by
    subst hc;exact ⟨.inl htop,fun o ws ho hd=>by rw[hDobj] at ho;obtain rfl:=Sj ho;cases hd⟩
  have hfrD:∀en∈fr,∀f,en.frame=some f->f≠s.heap.objs.size:=fun en hen f hf q=>by
    refine qdo (R.frs en hen) ?_;intro f' o es ep h3 h4 _;rw[hf] at h3;obtain rfl:=Sj h3;rw[q,hn0] at h4;cases h4
  have hLD:¬env.locals=s.heap.objs.size:=fun q=>by
    refine qa5 (F.ns) ?_;intro mh ne_8_1 _;refine qbw ne_8_1 ?_;intro oL es ep hL _;rw[q,hn0] at hL;cases hL
  refine Aa (qfg hx ha F1 (fun v1 rv1=>?_) hd);refine Aa (AP (Ag ?_));refine qdd (da.at R1 rv1) ?_;intro a1 us1 eq_9_2 d1 l1 r1 q1 q1';subst eq_9_2;have hne1:s.heap.objs.size≠a1:=fun q=>by
    refine Aq (q1' (q ▸ htop)) ?_;intro o ho;rw[<- q,hn1] at ho;cases ho
  refine qig hne1 q1 hD d1 (fun h' hm hs=>?_) (by rw[CW,CD];lia);refine AD ?_ (R1.turn3 (g':=g) (h':=h') s.toks (·=s.heap.objs.size) (fun c hc=>by subst hc;exact ⟨htop,hn1⟩) hX (fun en hen f hf q=>hfrD en hen f hf q) (fun _ _=>rfl) (fun c hc=>by subst hc;exact .inl htop) (fun c o ho hc=>(hs.2 c hc).trans ho));intro R2 e2a;have F2:Fra C env m g h':=F1.turn3 hX (fun c hc=>by subst hc;exact htop) hLD (fun c v hc q=>by subst hc;rw[hDobj] at q;injection q with q;injection q with q1 q2 q3;cases q3) e2a;refine qaj (qeu (ks:=[]) (vs:=[]) (us:=[]) rfl (rfl:RVs C.W g h' [] []) l1 (r1.mono e2a hX vs (.inl fun c hc=>by subst hc;exact htop) _)) ?_;intro ws1 w1 w2 w3;refine Aa (qfg hy hb F2 (fun v2 rv2=>?_) hd');refine Aa (AP (Ag ?_));refine qdd (db.at R2 rv2) ?_;intro a2 us2 eq_13_2 d2 l2 r2 q2 q2';subst eq_13_2;have hne2:s.heap.objs.size≠a2:=fun q=>by
    refine Aq (q2' (q ▸ htop)) ?_;intro o ho;rw[<- q,hn1] at ho;cases ho
  have hm':h'.DictOf (PySem.strKind C.W.prog C.W.w) s.heap.objs.size ((qag [] [] ks vs).1.zip ws1):=by rw[<- w1];exact hm
  have hlm:(qag [] [] ks vs).1.length<=ks.length:=by
    have e1:=merged_length_le ([]:List (Str×Value)) (ks.zip us1);rw[show GB [] (ks.zip us1)=_ from w1,CD,CD] at e1;simp only[CW] at e1
    simp_all
  refine qig hne2 q2 hm' d2 (fun h'' hm2 hs2=>?_) (by rw[CD,CD];grind);refine qaj (qeu w2 w3 l2 r2) ?_;intro ws2 x1 x2 x3;rw[x1] at hm2;refine qa5 (Ci.mp hm') ?_;intro oD hoD _;have hX2:XOk (·=s.heap.objs.size) g h':=fun c hc=>by
    subst hc;refine ⟨.inl htop,fun o ws ho hd=>?_⟩;refine qa2 (hm') ?_;intro o' es ep ho' _ hd' _;rw[ho'] at ho;obtain rfl:=Sj ho;rw[hd'] at hd;cases hd
  have hk2:∀b o,h'.get? b=some o->b≠s.heap.objs.size->h''.get? b=some o:=fun b o ho hb=>(hs2.2 b hb).trans ho
  have e3a:=Evo.adopt R2 (h':=h'') htop hn1 hk2;refine qa5 (Ci.mp hm2) ?_;intro oD' hoD' _;have hpl:plains (qag (qag [] [] ks vs).1 (qag [] [] ks vs).2 ks' vs').2=true:=qdf (qdf rfl hp) hp';refine AD ?_ (R2.adopt (h':=h'') s.toks htop hn1 hX2 hfrD hk2 ⟨oD',hoD'⟩ (ao:=.dstr (qag (qag [] [] ks vs).1 (qag [] [] ks vs).2 ks' vs').1 (qag (qag [] [] ks vs).1 (qag [] [] ks vs).2 ks' vs').2) hpl ⟨ws2,hm2,x2,x3.mono e3a hX2 _ (.inl fun c hc=>by subst hc;exact htop) _⟩);intro R4 e4;refine hQ _ _ _ R4 ?_ ⟨_,rfl,qa4⟩;exact (((e1a.toX (X:=(·=s.heap.objs.size))).trans e2a).trans e4).toY.weak R.low (fun b o ho q=>by subst q;rw[hn0] at ho;cases ho) fun _ q=>q
end
end
section
section
theorem qlo {kvs:List (Str×Value)}{v:Value}{Q:Unit->Al->Prop}(hm:s.heap.DictOf (PySem.strKind prog w) a kvs)(hx:x∉kvs.map (·.1))(hQ:∀h',h'.DictOf (PySem.strKind prog w) a (kvs++[(x,v)])->AQ a s.heap h'->Q () { s with heap:=h',toks:=s.toks+1 }):wpAny (model prog w) A (nsSet a x v) Q E s:=fun Γ p hΓ=>by
  refine qb5 (hm) ?_;intro ne_0_0 es ep ho ne_0_4 hd hk hp hn;obtain ⟨c,dd,dt,sl⟩:=ne_0_0;obtain ⟨hc1,hc2,hc3⟩:=ne_0_4;have hd':dt=.dict es ep:=hd;obtain rfl:c=.type "dict":=hc1;obtain rfl:dd=none:=hc2;obtain rfl:sl=#[]:=hc3;subst hd';have hstr:∀e∈es,∃n t,e.key=.str n t:=fun e he=>by
    refine qa5 (hk e he) ?_;intro k hk1 _;obtain ⟨t,ht⟩:=Value.isStrOf_shape hk1;exact ⟨k,t,ht⟩
  have hany:es.any (·.refKey)=false:=by
    rw[E0];intro e he;refine qjj (hstr e he) ?_;intro n t h;simp[FS,h]
  have hnone:es.findIdx? (·.key.isStr x)=none:=by
    rw[Array.findIdx?_eq_none_iff];intro e he;refine qa5 (hk e he) ?_;intro k hk1 _;obtain ⟨t,ht⟩:=Value.isStrOf_shape hk1;have hmem:k∈kvs.map (·.1):=by
      obtain ⟨i,hi,rfl⟩:=Ey.mp he;have hlen:es.size=kvs.length:=by rw[<- hp.length];simp
      obtain ⟨kv,hkv⟩:∃kv,kvs[i]?=some kv:=⟨kvs[i]'(by lia),Ad _⟩
      obtain ⟨h1,_⟩:=hp.get? (e:=es[i]) (by simp[hi]) (k:=kv.1) (v:=kv.2) hkv;have:k=kv.1:=(PySem.strKind prog w).inj _ _ _ hk1 h1;subst this;exact Br.mpr ⟨kv,List.mem_iff_getElem?.mpr ⟨i,hkv⟩,rfl⟩
    rw[ht];show (k==x)=false;exact beq_eq_false_iff_ne.mpr fun q=>hx (q ▸ hmem)
  simp only[nsSet,strHash,Sem.wp_bind',Sem.wp_cmd_ask,Sem.wp_pure',Sem.wp_cmd_mkText];rw[Sem.wp_loadPart_of (model prog w) Γ _ p { s with toks:=s.toks+1 } _ ho];simp only[aRefKeyMayBeTheName_eq,Fh,hany,CP,AY,if_false,Sem.wp_cmd_updatePart];refine ⟨by rw[ho];rfl,hQ _ ?_ (Bj ..)⟩;refine ⟨_,_,ep+1,Bc _ ho (by simp only[Fi,Eb,hnone];rfl),by simp only[Fi,Eb,hnone];exact ⟨rfl,rfl,rfl⟩,by simp only[Fi,Eb,hnone];rfl,?_,?_,?_⟩
  . exact hk.push (k:=x) (key:=.str x s.toks) (by show (x==x)=true;simp) _
  . have:=hp.append (knd:=PySem.strKind prog w) (k:=x) (key:=.str x s.toks) (by show (x==x)=true;simp) (hashStr w x) v;rw[C8];exact this
  . rw[A0,FF];refine ⟨hn,by simp,?_⟩;intro a' ha b hb;simp only[Bz,List.map_nil,AL] at hb;subst hb;exact fun e=>hx (e ▸ ha)
theorem qqh {d:Addr}(f:Str×Value->PUnit->Sem (ForInStep PUnit))(hf:∀kv u,f kv u=(do nsSet d kv.1 kv.2;pure (.yield Ce))):∀(l:List (Str×Value)) {kvs:List (Str×Value)} {s:Al} {Q:PUnit->Al->Prop},s.heap.DictOf (PySem.strKind prog w) d kvs->((kvs++l).map (·.1)).Nodup ->
    (∀h' tk,h'.DictOf (PySem.strKind prog w) d (kvs++l)->AQ d s.heap h'->Q ⟨⟩ { s with heap:=h',toks:=tk })->wpAny (model prog w) A (forIn l Ce f) Q E s
  | [],kvs,s,Q,hm,hn,hQ=>by
    rw[Dh];exact Ag (hQ s.heap s.toks (by rw[Bf];exact hm) (AQ.refl _ _))
  | (x,v)::l,kvs,s,Q,hm,hn,hQ=>by
    rw[Cj,hf];have hx:x∉kvs.map (·.1):=fun q=>by
      rw[A0,Bz,FF] at hn;exact hn.2.2 x q x Am rfl
    refine Aa (Aa (qlo hm hx fun h' hm' hs'=>Ag ?_));refine qqh f hf l hm' (by simpa using hn) fun h'' tk hm'' hs''=>hQ h'' tk (by simpa using hm'') (hs'.trans hs'')
end
def BindX (W:Wd) (fd:BS) (args:List AV) (kn:List Str) (kv:List AV) (xs:List Str) (vs:List AV):Prop:=
  ∀(A:BF) (fr:List Env) (g:Addr->Own) (σ:List AObj) (s:Al) (us ks:List Value),Rep W fr g σ s->RVs W g s.heap args us->RVs W g s.heap kv ks->∀(Q:List (Str×Value)->Al->Prop) (E:Value->Al->Prop),
    (∀ws g' s',Rep W fr g' (σ++[.dstr kn kv]) s'->Evo W noX noY g s.heap g' s'.heap->RVs W g' s'.heap (vs++[.loc σ.length]) ws->Q (xs.zip ws) s')->wpAny (model W.prog W.w) A (Da fd ⟨us,kn.zip ks⟩) Q E s
theorem BindX.of {fd:BS}{T:Addr}{items:Array Value}(hd:fd.defaults=.ref T)(ho:W.s1.heap.get? T=some o)(ht:¬W.tab T)(hs:o.data=.seq items n)(hnd:kn.Nodup)(hl:kn.length=kv.length)(hp:plains kv=true)(h:∀us ks:List Value,us.length=args.length->ks.length=kn.length->∃(k:Option (Array Value)->Sem (List (Str×Value))) (ws:List Value),Da fd ⟨us,kn.zip ks⟩=seqItems? fd.defaults >>= k /\
      k (some items)=(do let d <- alloc { cls:=.type "dict",data:=.dict #[] };forIn (kn.zip ks) Ce (fun kv _=>do nsSet d kv.1 kv.2;pure (.yield Ce));pure (xs.zip (ws++[.ref d])))/\∀(g:Addr->Own) (h:Heap),RVs W g h args us->RVs W g h vs ws):
    BindX W fd args kn kv xs vs:=fun A fr g σ s us ks R ru rk Q E hQ=>by
  have hlk:ks.length=kn.length:=by rw[rk.length,hl]
  refine qa1 (h us ks ru.length hlk) ?_;intro k ws h1 h2 h3;rw[h1,hd];refine Aa (GG (R.base T o ho ht) hs ?_);rw[h2];refine Aa (Gx ?_);have htop:=R.top;have hn0:s.heap.get? s.heap.objs.size=none:=qai _;refine AD ?_ (R.push { cls:=.type "dict",data:=.dict #[] } .other rfl (.inr rfl));intro R1 e1a;have hgo:qc6 g s.heap.objs.size .other=g:=by
    funext c
    by_cases hc:c=s.heap.objs.size
    . subst hc;rw[qa4,htop]
    . exact qa9 hc
  rw[hgo] at R1 e1a;have hn1:=R.new1 hn0;have hDobj:(s.heap.push { cls:=.type "dict",data:=.dict #[] }).get? s.heap.objs.size=some { cls:=.type "dict",data:=.dict #[] }:=Ar _ rfl;have hD:(s.heap.push { cls:=.type "dict",data:=.dict #[] }).DictOf (PySem.strKind W.prog W.w) s.heap.objs.size []:=⟨_,#[],0,hDobj,⟨rfl,rfl,rfl⟩,rfl,fun e he=>absurd he (by simp),.nil,by simp⟩
  have hX:XOk (·=s.heap.objs.size) g (s.heap.push { cls:=.type "dict",data:=.dict #[] }):=fun c hc=>by
    subst hc;exact ⟨.inl htop,fun o ws ho hd=>by rw[hDobj] at ho;obtain rfl:=Sj ho;cases hd⟩
  have hfrD:∀en∈fr,∀f,en.frame=some f->f≠s.heap.objs.size:=fun en hen f hf q=>by
    refine qdo (R.frs en hen) ?_;intro f' o es ep h3 h4 _;rw[hf] at h3;obtain rfl:=Sj h3;rw[q,hn0] at h4;cases h4
  refine Aa (qqh _ (fun _ _=>rfl) (kn.zip ks) hD ?_ fun h' tk hm hs'=>?_)
  . rw[CX,<- List.unzip_fst,List.unzip_zip_left (by simp_all)];exact hnd
  rw[CX] at hm;have hk2:∀b o,(s.heap.push { cls:=.type "dict",data:=.dict #[] }).get? b=some o->b≠s.heap.objs.size->h'.get? b=some o:=fun b o ho hb=>(hs'.2 b hb).trans ho
  have e3a:=Evo.adopt R1 (h':=h') htop hn1 hk2;refine qa5 (Ci.mp hm) ?_;intro oD' hoD' _;refine AD ?_ (R1.adopt (h':=h') tk htop hn1 hX hfrD hk2 ⟨oD',hoD'⟩ (ao:=.dstr kn kv) hp ⟨ks,hm,hlk.symm,(rk.up e1a).mono e3a hX _ (.inl fun c hc=>by subst hc;exact htop) _⟩);intro R4 e4;have e5:Evo W noX noY g s.heap (qc6 g s.heap.objs.size (.loc σ.length)) h':=((e1a.toX (X:=(·=s.heap.objs.size))).trans e4).weak R.low (fun b o ho q=>by subst q;rw[hn0] at ho;cases ho) fun _ q=>q
  exact Ag (hQ _ _ _ R4 e5 (((h3 _ _ ru).up e5).append ⟨_,[],rfl,⟨_,rfl,qa4⟩,rfl⟩))
section
end
end
section
noncomputable def qek {α:Type} (lt:Nat->Nat->Bool):KasT α->α
  | .ret a=>a
  | .ask i j k=>qek lt (k (lt i j))
theorem qco {β:Type}{lt:Nat->Nat->Bool}{f:α->KasT β}:∀(t:KasT α),qek lt (t.bind f)=qek lt (f (qek lt t))
  | .ret _=>rfl
  | .ask i j k=>qco (k (lt i j))
structure SWO (lt:Nat->Nat->Bool):Prop where
  asymm:∀{a b},lt a b=true->lt b a=false
  tr:∀{a b c},lt a b=true->lt b c=true->lt a c=true
  ntr:∀{a b c},lt a b=false->lt b c=false->lt a c=false
section
variable {lt:Nat->Nat->Bool}
theorem SWO.lt_of_lt_of_le (S:SWO lt){a c:Nat}(h1:lt a b=true)(h2:lt c b=false):lt a c=true:=by
  cases h:lt a c with
  | true=>rfl
  | false=>rw[S.ntr h h2] at h1;cases h1
theorem SWO.lt_of_le_of_lt (S:SWO lt){a c:Nat}(h1:lt b a=false)(h2:lt b c=true):lt a c=true:=by
  cases h:lt a c with
  | true=>rfl
  | false=>rw[S.ntr h1 h] at h2;cases h2
theorem SWO.irr (S:SWO lt)(a:Nat):lt a a=false:=by
  cases h:lt a a with
  | false=>rfl
  | true=>exact (S.asymm h).symm.trans h |>.symm ▸ rfl
def Prec (lt:Nat->Nat->Bool) (a b:Nat):Prop:=lt a b=true\/(lt b a=false/\a<b)
theorem Prec.trans (S:SWO lt){a c:Nat}(h1:Prec lt a b)(h2:Prec lt b c):Prec lt a c:=by
  rcases h1 with h1 | ⟨h1,h1'⟩ <;> rcases h2 with h2 | ⟨h2,h2'⟩
  . exact .inl (S.tr h1 h2)
  . exact .inl (S.lt_of_lt_of_le h1 h2)
  . exact .inl (S.lt_of_le_of_lt h1 h2)
  . exact .inr ⟨S.ntr h2 h1,by lia⟩
noncomputable def At (p:Array Nat) (k:Nat):Nat:=p.getD k 0
theorem qgm (p:Array Nat)(k:Nat):At p k=p[k]?.getD 0:=by unfold At;rw[E7]
theorem qow {p:Array Nat}(hj:j<=p.size)(k:Nat):At (BI p i j) k=if i<=k/\k<j then At p (i+j - 1 - k) else At p k:=by
  rw[qgm,BI,getElem?_mirror_all hj];split <;> rw[qgm]
structure Pre (p:Array Nat) (n N:Nat):Prop where
  size:p.size=N
  perm:p.Perm (Ac N).toArray
  fix:∀k,n<=k->k<N->At p k=k
  low:∀k,k<n->At p k<n
theorem Pre.more {p:Array Nat}(P:Pre p n N)(h:n<=n')(h':n'<=N):Pre p n' N:=
  ⟨P.size,P.perm,fun k h1 h2=>P.fix k (by lia) h2,fun k hk=>by
    by_cases q:k<n
    . have:=P.low k q;lia
    . rw[P.fix k (by simp_all) (by lia)];exact hk⟩
theorem qeh {p:Array Nat}{k':Nat}(hj:j<=p.size)(h1:i<=k)(h2:k<j)(h:k+k'+1=i+j):At (BI p i j) k=At p k':=by
  rw[qow hj,if_pos ⟨h1,h2⟩,<- h];exact congrArg (At p) (Nat.add_sub_cancel_left (n:=k) (m:=k'))
theorem qf0 {p:Array Nat}(hj:j<=p.size)(h:¬(i<=k/\k<j)):At (BI p i j) k=At p k:=by
  rw[qow hj,if_neg h]
theorem Pre.rev {p:Array Nat}(P:Pre p n N)(hj:j<=n)(hn:n<=N):Pre (BI p i j) n N:=by
  have hs:j<=p.size:=P.size ▸ Af hj hn;refine ⟨(kas_rev_size i j).trans P.size,(EP _ _ _ _).trans P.perm,fun k h1 h2=>(qf0 hs fun h=>absurd (Ah h.2 hj) (Be.mpr h1)).trans (P.fix k h1 h2),fun k hk=>?_⟩;by_cases h:i<=k/\k<j
  . rw[qow hs,if_pos h];exact P.low _ (Ah (show i+j - 1 - k<j by have:=h.1;omega) hj)
  . rw[qf0 hs h];exact P.low k hk
def Asc (lt:Nat->Nat->Bool) (p:Array Nat) (n:Nat):Prop:=∀i j,i<j->j<n->Prec lt (At p i) (At p j)
def Dsc (lt:Nat->Nat->Bool) (p:Array Nat) (n:Nat):Prop:=∀i j,i<j->j<n->Prec lt (At p j) (At p i)
theorem qqe {p:Array Nat}(hs:n<=p.size)(hij:i<j)(hj:j<n):∃i' j',j'<i'/\i'<n/\At (BI p 0 n) i=At p i'/\At (BI p 0 n) j=At p j':=by
  refine Aq (Nat.exists_eq_add_of_lt hij) ?_;intro a eq_0_1;subst eq_0_1;refine Aq (Nat.exists_eq_add_of_lt hj) ?_;intro b eq_1_1;subst eq_1_1;exact ⟨a+1+b,b,by simp,by lia,qeh hs (AI _) (Bq hij hj) (by lia),qeh hs (AI _) hj (by simp)⟩
theorem Dsc.rev {p:Array Nat}(P:Pre p n N)(hn:n<=N)(hd:Dsc lt p n):Asc lt (BI p 0 n) n:=fun i j hij hj=>by
  refine qb3 (qqe (P.size ▸ hn) hij hj) ?_;intro i' j' h1 h2 e1 e2;rw[e1,e2];exact hd j' i' h1 h2
theorem Asc.rev {p:Array Nat}(P:Pre p n N)(hn:n<=N)(hd:Asc lt p n):Dsc lt (BI p 0 n) n:=fun i j hij hj=>by
  refine qb3 (qqe (P.size ▸ hn) hij hj) ?_;intro i' j' h1 h2 e1 e2;rw[e1,e2];exact hd j' i' h1 h2
theorem Ie5 (S:SWO lt){p:Array Nat}(P:Pre p n N)(h:Asc lt p n)(hn:n<N)(h1:1<=n)(hl:lt (At p n) (At p (n - 1))=false):Asc lt p (n+1):=by
  have hnn:At p n=n:=P.fix n (Ak _) hn;match n,h1 with
  | m+1,_=>
    have last:Prec lt (At p m) (At p (m+1)):=.inr ⟨hl,by rw[hnn];exact P.low _ (Bp m)⟩;intro i j hij hj;rcases AT j (m+1) with q | q
    . exact h i j hij q
    . obtain rfl:=BG (AH hj) q;rcases AT i m with q' | q'
      . exact (h i m q' (Bp m)).trans S last
      . obtain rfl:=BG (AH hij) q';exact last
theorem qkd (S:SWO lt){p:Array Nat}:∀(f n:Nat),Pre p n N->n+f=N->1<=n->Asc lt p n->∃n',qek lt (kas_asc p f n)=n'/\n<=n'/\n'<=N/\Asc lt p n'/\(n'=N\/lt (At p n') (At p (n' - 1))=true)
  | 0,n,P,hf,h1,h=>⟨n,rfl,Ak _,BE hf,h,.inl hf⟩
  | f+1,n,P,hf,h1,h=>by
    have hn:n+1+f=N:=(Ct n f).trans hf;have hN:n<N:=hn ▸ AZ (n+1) f;show ∃n',qek lt (if lt (At p n) (At p (n - 1))=true then Dl n else kas_asc p f (n+1))=n'/\_;cases hl:lt (At p n) (At p (n - 1)) with
    | true=>exact ⟨n,rfl,Ak _,Av hN,h,.inr hl⟩
    | false=>
      refine qaj (qkd S f (n+1) (P.more (DM n) hN) hn (Ck 1 n) (Ie5 S P h hN h1 hl)) ?_;intro n' e1 e2 r;exact ⟨n',e1,Av e2,r⟩
structure DInv (lt:Nat->Nat->Bool) (p:Array Nat) (b q:Nat):Prop where
  big:∀i,i<b->lt (At p (b+q)) (At p i)=true
  dsc:Dsc lt p b
  eqv:∀i,b<=i->i<=b+q->lt (At p i) (At p (b+q))=false/\lt (At p (b+q)) (At p i)=false
  asc:∀i j,b<=i->i<j->j<=b+q->At p i<At p j
theorem DInv.turn (S:SWO lt){p:Array Nat}(D:DInv lt p b q)(P:Pre p (b+(q+1)) N)(hn:b+(q+1)<=N):∃p',(if q > 0 then BI p b (b+(q+1)) else p)=p'/\Pre p' (b+(q+1)) N/\Dsc lt p' (b+(q+1))/\(∀i,i<b+(q+1)->lt (At p' i) (At p (b+q))=false):=by
  have hs:b+(q+1)<=p.size:=P.size ▸ hn;have hb:∀i,i<b+(q+1)->lt (At p i) (At p (b+q))=false:=fun i hi=>(AT i b).elim (fun h=>S.asymm (D.big i h)) fun h=>(D.eqv i h (AH hi)).1
  by_cases hq:q > 0
  . rw[if_pos hq];have mir:∀k,b<=k->k<b+(q+1)->∃k',b<=k'/\k'<=b+q/\k+k'=b+(b+q)/\At (BI p b (b+(q+1))) k=At p k':=fun k h1 h2=>by
      have h3:k<=b+q:=AH h2;have h4:k+(b+(b+q) - k)=b+(b+q):=B0 (Af h3 (Ck _ _));generalize b+(b+q) - k=k' at h4;exact ⟨k',by lia,by lia,h4,qeh hs h1 h2 (by rw[h4];rfl)⟩
    have low:∀k,k<b->At (BI p b (b+(q+1))) k=At p k:=fun k h=>qf0 hs fun h'=>absurd h (Be.mpr h'.1)
    refine ⟨_,rfl,P.rev (Ak _) hn,fun i j hij hj=>?_,fun i hi=>?_⟩
    . rcases AT j b with q1 | q1
      . rw[low j q1,low i (Bq hij q1)];exact D.dsc i j hij q1
      . refine qbx (mir j q1 hj) ?_;intro j' c1 c2 c3 c4;rw[c4];rcases AT i b with q2 | q2
        . rw[low i q2];exact .inl (S.lt_of_le_of_lt (D.eqv j' c1 c2).2 (D.big i q2))
        . refine qbx (mir i q2 (Bq hij hj)) ?_;intro i' a1 a2 a3 a4;rw[a4];exact .inr ⟨S.ntr (D.eqv i' a1 a2).1 (D.eqv j' c1 c2).2,D.asc j' i' c1 (by lia) a2⟩
    . rcases AT i b with q1 | q1
      . rw[low i q1];exact hb i hi
      . refine qbx (mir i q1 hi) ?_;intro i' a1 a2 a3 a4;rw[a4];exact hb i' (C2 a2)
  . rw[if_neg hq];refine ⟨p,rfl,P,fun i j hij hj=>?_,hb⟩;obtain rfl:q=0:=Nat.eq_zero_of_not_pos hq;rcases AT j b with q1 | q1
    . exact D.dsc i j hij q1
    . obtain rfl:=BG (AH hj) q1;exact .inl (D.big i hij)
theorem DInv.new (S:SWO lt){p:Array Nat}(hd:Dsc lt p n)(hb:∀i,i<n->lt (At p n) (At p i)=true):DInv lt p n 0:=
  ⟨hb,hd,fun i h1 h2=>BG h2 h1 ▸ ⟨S.irr _,S.irr _⟩,fun i j h1 h2 h3=>absurd (Ah h2 h3) (Be.mpr h1)⟩
theorem qhr (S:SWO lt):∀(f b q:Nat) (p:Array Nat),Pre p (b+(q+1)) N->b+(q+1)+f=N->DInv lt p b q->∃p' b' q',qek lt (Cg f p (b+(q+1)) q)=(p',b'+(q'+1),q')/\b'+(q'+1)<=N/\Pre p' (b'+(q'+1)) N/\DInv lt p' b' q'
  | 0,b,q,p,P,hf,D=>⟨p,b,q,rfl,BE hf,P,D⟩
  | f+1,b,q,p,P,hf,D=>by
    have hn:b+(q+1)+1+f=N:=(Ct _ f).trans hf;have hN:b+(q+1)<N:=hn ▸ AZ _ f;have hnn:At p (b+(q+1))=b+(q+1):=P.fix _ (Ak _) hN;show ∃p' b' q',qek lt (if lt (At p (b+(q+1))) (At p (b+q))=true then (if q > 0 then Cg f (BI p (b+(q+1) - (q+1)) (b+(q+1))) (b+(q+1)+1) 0 else Cg f p (b+(q+1)+1) 0)
      else .ask (At p (b+q)) (At p (b+(q+1))) fun d=>if d=true then .ret (p,b+(q+1),q) else Cg f p (b+(q+1)+1) (q+1))=(p',b'+(q'+1),q')/\_
    cases hl:lt (At p (b+(q+1))) (At p (b+q)) with
    | true=>
      refine qbx (D.turn S P (Av hN)) ?_;intro p' hp' P' hd hb;have e:(if q > 0 then Cg f (BI p (b+(q+1) - (q+1)) (b+(q+1))) (b+(q+1)+1) 0 else Cg f p (b+(q+1)+1) 0)=Cg f p' (b+(q+1)+1) 0:=by
        rw[<- hp',Nat.add_sub_cancel];split <;> rfl
      rw[if_pos rfl,e];have hn':At p' (b+(q+1))=b+(q+1):=P'.fix _ (Ak _) hN;exact qhr S f (b+(q+1)) 0 p' (P'.more (DM _) hN) hn (DInv.new S hd fun i hi=>by
        rw[hn',<- hnn];exact S.lt_of_lt_of_le hl (hb i hi))
    | false=>
      show ∃p' b' q',qek lt (if lt (At p (b+q)) (At p (b+(q+1)))=true then Dl (p,b+(q+1),q) else Cg f p (b+(q+1)+1) (q+1))=(p',b'+(q'+1),q')/\_;cases hd:lt (At p (b+q)) (At p (b+(q+1))) with
      | true=>exact ⟨p,b,q,rfl,Av hN,P,D⟩
      | false=>
        refine qhr S f b (q+1) p (P.more (DM _) hN) hn ⟨fun i hi=>S.lt_of_le_of_lt hd (D.big i hi),D.dsc,fun i h1 h2=>?_,fun i j h1 h2 h3=>?_⟩
        . rcases AT i (b+(q+1)) with q' | q'
          . have:=D.eqv i h1 (AH q');exact ⟨S.ntr this.1 hd,S.ntr hl this.2⟩
          . obtain rfl:=BG h2 q';exact ⟨S.irr _,S.irr _⟩
        . rcases AT j (b+(q+1)) with q' | q'
          . exact D.asc i j h1 h2 (AH q')
          . obtain rfl:=BG h3 q';rw[hnn];exact P.low i h2
theorem qmf (S:SWO lt){p:Array Nat}(P:Pre p n N)(h1:1<=n)(hn:n<=N)(hd:Dsc lt p n):∃m p',qek lt (CZ n N p)=(m,p')/\1<=m/\m<=N/\Pre p' m N/\Asc lt p' m:=by
  have ha:Asc lt (BI p 0 n) n:=Dsc.rev P hn hd;refine qet (qkd S (N - n) n (P.rev (i:=0) (Ak n) hn) (B0 hn) h1 ha) ?_;intro n' e1 e2 e3 e4 _;refine ⟨n',BI p 0 n,?_,Af h1 e2,e3,(P.rev (i:=0) (Ak n) hn).more e2 e3,e4⟩;unfold CZ;rw[qco,e1];rfl
theorem qf4 (S:SWO lt){p:Array Nat}(P:Pre p n N)(hn:n+1<=N)(D:DInv lt p n 0):∃m p',qek lt (Cu n N p)=(m,p')/\1<=m/\m<=N/\Pre p' m N/\Asc lt p' m:=by
  refine qa2 (qhr S (N - (n+1)) n 0 p (P.more (DM n) hn) (B0 hn) D) ?_;intro p' b' q' h1 h3 h4 h5;refine qbx (h5.turn S h4 h3) ?_;intro p'' hp'' P'' hd _;unfold Cu;rw[qco,h1];have e:(if q' > 0 then CZ (b'+(q'+1)) N (BI p' (b'+(q'+1) - (q'+1)) (b'+(q'+1))) else CZ (b'+(q'+1)) N p')=CZ (b'+(q'+1)) N p'':=by
    rw[<- hp'',Nat.add_sub_cancel];split <;> rfl
  show ∃m p,qek lt (if q' > 0 then CZ (b'+(q'+1)) N (BI p' (b'+(q'+1) - (q'+1)) (b'+(q'+1))) else CZ (b'+(q'+1)) N p')=(m,p)/\_;rw[e];exact qmf S P'' (Af (Ck 1 q') (Ck _ _)) h3 hd
theorem qof (S:SWO lt){p:Array Nat}(P:Pre p 1 N)(hN:1<=N):∃m p',qek lt (kas_count N p)=(m,p')/\1<=m/\m<=N/\Pre p' m N/\Asc lt p' m:=by
  refine qet (qkd S (N - 1) 1 P (B0 hN) (Ak _) (fun i j h1 h2=>absurd (Ah h1 (AH h2)) (B8 _))) ?_;intro n e1 e2 e3 e4 e5;have Pn:=P.more e2 e3;unfold kas_count;rw[qco,e1];by_cases hn:n=N
  . rw[if_pos (by simpa using hn)];exact ⟨n,p,rfl,e2,e3,Pn,e4⟩
  . rw[if_neg (by simpa using hn)];have hl:=e5.resolve_left hn;have hN':n<N:=Fb e3 hn;have hnn:At p n=n:=Pn.fix n (Ak _) hN';have hs:n<=p.size:=by rw[P.size];exact e3
    match n,e2 with
    | 1,_=>exact qf4 S Pn hN' (DInv.new S (fun i j h1 h2=>absurd (Ah h1 (AH h2)) (B8 _)) fun i hi=>by
        obtain rfl:=Nat.eq_zero_of_le_zero (AH hi);exact hl)
    | m+2,e2=>
      show ∃x p',qek lt (if lt (At p 0) (At p (m+1))=true then Dl (m+2,p) else Cu (m+2) N (BI p 0 (m+2)))=(x,p')/\_;cases h0:lt (At p 0) (At p (m+1)) with
      | true=>exact ⟨m+2,p,rfl,e2,e3,Pn,e4⟩
      | false=>
        have hge:∀i,i<m+2->lt (At p i) (At p (m+1))=false:=fun i hi=>by
          rcases D9 i with q | q
          . rw[q];exact h0
          . exact S.ntr ((e4 0 i q hi).elim S.asymm (·.1)) h0
        have P':=Pn.rev (i:=0) (Ak _) e3;have hn':At (BI p 0 (m+2)) (m+2)=m+2:=P'.fix _ (Ak _) hN';refine qf4 S P' hN' (DInv.new S (Asc.rev Pn e3 e4) fun i hi=>?_);rw[hn',qeh hs (AI i) hi (k':=m+1 - i) (by grind)];rw[hnn] at hl;exact S.lt_of_lt_of_le hl (hge _ (An (Nat.sub_le _ _) (Bp _)))
theorem qfq (S:SWO lt){p:Array Nat}(ha:Asc lt p k):∀(f l r:Nat),l<=r->r<=k->r<=l+f->(∀i,i<l->lt (At p k) (At p i)=false)->(∀i,r<=i->i<k->lt (At p k) (At p i)=true) ->
    ∃l',qek lt (DD p k f l r)=l'/\l'<=k/\(∀i,i<l'->lt (At p k) (At p i)=false)/\(∀i,l'<=i->i<k->lt (At p k) (At p i)=true)
  | 0,l,r,h1,h2,h3,h4,h5=>⟨l,rfl,Af h1 h2,h4,fun i h6 h7=>h5 i (Af h3 h6) h7⟩
  | f+1,l,r,h1,h2,h3,h4,h5=>by
    show ∃l',qek lt (if l>=r then Dl l else .ask (At p k) (At p ((l+r) / 2)) fun c=>if c=true then DD p k f l ((l+r) / 2) else DD p k f ((l+r) / 2+1) r)=l'/\_;by_cases hlr:l>=r
    . rw[if_pos hlr];exact ⟨l,rfl,Af h1 h2,h4,fun i h6 h7=>h5 i (Af hlr h6) h7⟩
    . rw[if_neg hlr];have m1:l<=(l+r) / 2:=by lia
      have m2:(l+r) / 2<r:=by lia
      generalize (l+r) / 2=m at m1 m2;have hmk:=Ah m2 h2;show ∃l',qek lt (if lt (At p k) (At p m)=true then DD p k f l m else DD p k f (m+1) r)=l'/\_;cases hc:lt (At p k) (At p m) with
      | true=>
        refine qfq S ha f l m m1 (Av hmk) (AH (Ah m2 h3)) h4 fun i h6 h7=>?_
        rcases AF h6 with q | q
        . exact q ▸ hc
        . exact (ha m i q h7).elim (S.tr hc) fun z=>S.lt_of_lt_of_le hc z.1
      | false=>
        refine qfq S ha f (m+1) r m2 h2 (by lia) (fun i h6=>?_) h5;rcases AF (AH h6) with q | q
        . exact q ▸ hc
        . exact (ha i m q hmk).elim (fun z=>S.ntr hc (S.asymm z)) fun z=>S.ntr hc z.1
theorem qei {p:Array Nat}{l:Nat}(hk:k<p.size)(hl:l<=k)(i:Nat):At (G0 p k (k - l)) i=if i=l then At p k else if l<i/\i<=k then At p (i - 1) else At p i:=by
  rw[qgm,getElem?_bubble hk (k - l) (Nat.sub_le _ _),Nat.sub_sub_self hl];split
  . rw[qgm]
  . split <;> rw[qgm]
theorem qj6 {p:Array Nat}{l:Nat}(hk:k<p.size)(hl:l<=k)(h:i<l):At (G0 p k (k - l)) i=At p i:=by
  rw[qei hk hl,if_neg (B9 h),if_neg fun q=>absurd q.1 (F0 h)]
theorem qu7 {p:Array Nat}{l:Nat}(hk:k<p.size)(hl:l<=k)(h:k<i):At (G0 p k (k - l)) i=At p i:=by
  rw[qei hk hl,if_neg (C1 (An hl h)),if_neg fun q=>absurd q.2 (Bn.mpr h)]
theorem qok {p:Array Nat}{l:Nat}(hk:k<p.size)(hl:l<=k):At (G0 p k (k - l)) l=At p k:=by
  rw[qei hk hl,if_pos rfl]
theorem qoj {p:Array Nat}{l:Nat}(hk:k<p.size)(h:l<=i)(hi:i<k):At (G0 p k (k - l)) (i+1)=At p i:=by
  rw[qei hk (Av (An h hi)),if_neg (C1 (C2 h)),if_pos ⟨C2 h,hi⟩];rfl
theorem qoq (S:SWO lt):∀(f:Nat) (p:Array Nat) (k:Nat),Pre p k N->k+f=N->Asc lt p k->∃p',qek lt (kas_bin f p k)=p'/\Pre p' N N/\Asc lt p' N
  | 0,p,k,P,hf,ha=>by obtain rfl:k=N:=hf;exact ⟨p,rfl,P,ha⟩
  | f+1,p,k,P,hf,ha=>by
    have hn:k+1+f=N:=(Ct _ f).trans hf;have hN:k<N:=hn ▸ AZ _ f;have hkn:At p k=k:=P.fix k (Ak _) hN;have hks:k<p.size:=P.size ▸ hN;refine qbx (qfq S ha k 0 k (AI _) (Ak _) (BE (Eo k).symm) (fun i h=>absurd h (B8 _)) (fun i h1 h2=>absurd h2 (Be.mpr h1))) ?_;intro l e1 e2 e3 e4;show ∃p',qek lt ((DD p k k 0 k).bind fun l=>kas_bin f (G0 p k (k - l)) (k+1))=p'/\_;rw[qco,e1];refine qoq S f (G0 p k (k - l)) (k+1) ⟨(bubble_size ..).trans P.size,(bubble_perm _ _ _).trans P.perm,fun i h1 h2=>(qu7 hks e2 h1).trans (P.fix i (Av h1) h2),fun i hi=>?_⟩ hn fun i j hij hj=>?_
    . rcases AT i l with q | q
      . rw[qj6 hks e2 q];exact Cc (P.low i (Ah q e2))
      . rcases AF q with q | q
        . rw[<- q,qok hks e2,hkn];exact Bp k
        . match i,q with
          | i+1,q=>rw[qoj hks (AH q) (CH hi)];exact Cc (P.low i (CH hi))
    . have lo:∀i,i<l->Prec lt (At p i) (At p k):=fun i hi=>.inr ⟨e3 i hi,by rw[hkn];exact P.low i (Ah hi e2)⟩
      rcases AT j l with q | q
      . rw[qj6 hks e2 q,qj6 hks e2 (Bq hij q)];exact ha i j hij (Ah q e2)
      . rcases AF q with q | q
        . subst q;rw[qok hks e2,qj6 hks e2 hij];exact lo i hij
        . match j,q,hj,hij with
          | j+1,q,hj,hij=>
            have q1:=AH q;have hj:=CH hj;rw[qoj hks q1 hj];rcases AT i l with w | w
            . rw[qj6 hks e2 w];exact ha i j (Ah w q1) hj
            . rcases AF w with w | w
              . rw[<- w,qok hks e2];exact .inl (e4 j q1 hj)
              . match i,w,hij with
                | i+1,w,hij=>rw[qoj hks (AH w) (Bq (CH hij) hj)];exact ha i j (CH hij) hj
theorem qkl (S:SWO lt)(hN:1<=N):(qek lt (EQ N)).size=N/\(qek lt (EQ N)).toList.Perm (Ac N)/\(qek lt (EQ N)).toList.Pairwise (Prec lt):=by
  have P0:Pre (BQ (Ac N)) 1 N:=by
    have hat:∀k,k<N->At (BQ (Ac N)) k=k:=fun k hk=>by rw[qgm];simp[hk]
    refine ⟨by simp,Array.Perm.refl _,fun k h1 h2=>hat k h2,fun k hk=>?_⟩;have:k=0:=by simp_all
    subst this;rw[hat 0 (by assumption)];assumption
  refine qap (qof S P0 hN) ?_;intro m p e1 e2 e3 P ha;obtain ⟨p',e,P',ha'⟩:∃p',qek lt (EQ N)=p'/\Pre p' N N/\Asc lt p' N:=by
    unfold EQ;rw[qco,e1];show ∃p',qek lt (if m<N then kas_bin (N - max m 1) p (max m 1) else Dl p)=p'/\_;by_cases h:m<N
    . rw[if_pos h,show max m 1=m by simp_all];exact qoq S (N - m) p m P (by simp_all) ha
    . rw[if_neg h];have:m=N:=by lia
      subst this;exact ⟨p,rfl,P,ha⟩
  rw[e];refine ⟨P'.size,?_,?_⟩
  . have:=Array.perm_iff_toList_perm.mp P'.perm;simpa using this
  . rw[Bo];intro i j hi hj hij;have hi':i<p'.size:=by simpa using hi
    have hj':j<p'.size:=by simpa using hj
    have h:=ha' i j hij (by rw[<- P'.size];exact hj');rw[qgm,qgm,CV hi',CV hj'] at h;simpa using h
end
end
section
noncomputable def InB (N:Nat) {α:Type}:KasT α->Prop
  | .ret _=>True
  | .ask i j k=>i<N/\j<N/\∀b,InB N (k b)
noncomputable def AllT {α:Type} (P:α->Prop):KasT α->Prop
  | .ret a=>P a
  | .ask _ _ k=>∀b,AllT P (k b)
theorem Ib6 {β:Type}{f:α->KasT β}{P:α->Prop}:∀{t:KasT α},InB N t->AllT P t->(∀a,P a->InB N (f a))->InB N (t.bind f)
  | .ret a,_,hp,h=>h a hp
  | .ask i j k,⟨h1,h2,h3⟩,hp,h=>⟨h1,h2,fun b=>Ib6 (h3 b) (hp b) h⟩
theorem AllT.bind {β:Type}{f:α->KasT β}{P:α->Prop}{Q:β->Prop}:∀{t:KasT α},AllT P t->(∀a,P a->AllT Q (f a))->AllT Q (t.bind f)
  | .ret a,hp,h=>h a hp
  | .ask i j k,hp,h=>fun b=>AllT.bind (hp b) h
theorem Iba:∀{t:KasT α},AllT (fun _=>True) t
  | .ret _=>trivial
  | .ask _ _ k=>fun b=>Iba
def Bd (p:Array Nat) (N:Nat):Prop:=∀k,At p k<N
theorem Bd.of_mem {p:Array Nat}(hN:0<N)(h:∀x∈p,x<N):Bd p N:=fun k=>by
  rw[qgm];cases e:p[k]? with
  | none=>exact hN
  | some x=>exact h x (Array.mem_of_getElem? e)
theorem Bd.mem {p:Array Nat}(h:Bd p N):∀x∈p,x<N:=fun x hx=>by
  obtain ⟨i,hi,rfl⟩:=Ey.mp hx;have:=h i;rw[qgm,CV hi] at this;exact this
theorem Bd.perm {p q:Array Nat}(hN:0<N)(h:Bd p N)(hp:q.Perm p):Bd q N:=.of_mem hN fun x hx=>h.mem x (hp.mem_iff.mp hx)
section
theorem qjv {p:Array Nat}(h:Bd p N):∀(f n:Nat),InB N (kas_asc p f n)
  | 0,n=>trivial
  | f+1,n=>⟨h n,h (n - 1),fun b=>by
    show InB N (if b=true then Dl n else kas_asc p f (n+1));split
    . trivial
    . exact qjv h f (n+1)⟩
theorem ql2 (hN:0<N):∀(f:Nat) (p:Array Nat) (n q:Nat),Bd p N->InB N (Cg f p n q)/\AllT (fun r=>Bd r.1 N) (Cg f p n q)
  | 0,p,n,q,h=>⟨trivial,h⟩
  | f+1,p,n,q,h=>by
    have ih0:∀(p:Array Nat) (n q:Nat),Bd p N->InB N (Cg f p n q)/\AllT (fun r=>Bd r.1 N) (Cg f p n q):=fun p n q h=>ql2 hN f p n q h
    have r1:=ih0 p (n+1) 0 h;have r2:=ih0 (BI p (n - (q+1)) n) (n+1) 0 (h.perm hN (EP _ _ _ _));have r3:=ih0 p (n+1) (q+1) h;refine ⟨⟨h n,h (n - 1),fun b=>?_⟩,fun b=>?_⟩
    . show InB N (if b=true then (if q > 0 then Cg f (BI p (n - (q+1)) n) (n+1) 0 else Cg f p (n+1) 0)
        else .ask (At p (n - 1)) (At p n) fun d=>if d=true then .ret (p,n,q) else Cg f p (n+1) (q+1))
      split
      . split
        . exact r2.1
        . exact r1.1
      . refine ⟨h (n - 1),h n,fun d=>?_⟩;show InB N (if d=true then Dl (p,n,q) else Cg f p (n+1) (q+1));split
        . trivial
        . exact r3.1
    . show AllT (fun r:Array Nat×Nat×Nat=>Bd r.1 N) (if b=true then (if q > 0 then Cg f (BI p (n - (q+1)) n) (n+1) 0 else Cg f p (n+1) 0)
        else .ask (At p (n - 1)) (At p n) fun d=>if d=true then .ret (p,n,q) else Cg f p (n+1) (q+1))
      split
      . split
        . exact r2.2
        . exact r1.2
      . intro d;show AllT (fun r:Array Nat×Nat×Nat=>Bd r.1 N) (if d=true then Dl (p,n,q) else Cg f p (n+1) (q+1));split
        . exact h
        . exact r3.2
theorem qea (hN:0<N){nrem:Nat}{p:Array Nat}(h:Bd p N):InB N (CZ n nrem p)/\AllT (fun r=>Bd r.2 N) (CZ n nrem p):=by
  have h':Bd (BI p 0 n) N:=h.perm hN (EP _ _ _ _);exact ⟨Ib6 (qjv h' _ _) Iba fun a _=>trivial,AllT.bind Iba fun a _=>h'⟩
theorem qcc (hN:0<N){nrem:Nat}{p:Array Nat}(h:Bd p N):InB N (Cu n nrem p)/\AllT (fun r=>Bd r.2 N) (Cu n nrem p):=by
  refine AD ?_ (ql2 hN (nrem - (n+1)) p (n+1) 0 h);intro h1 h2;refine ⟨Ib6 h1 h2 fun r hr=>?_,AllT.bind h2 fun r hr=>?_⟩
  . show InB N (if r.2.2 > 0 then CZ r.2.1 nrem (BI r.1 (r.2.1 - (r.2.2+1)) r.2.1) else CZ r.2.1 nrem r.1);split
    . exact (qea hN (hr.perm hN (EP _ _ _ _))).1
    . exact (qea hN hr).1
  . show AllT (fun r:Nat×Array Nat=>Bd r.2 N) (if r.2.2 > 0 then CZ r.2.1 nrem (BI r.1 (r.2.1 - (r.2.2+1)) r.2.1) else CZ r.2.1 nrem r.1);split
    . exact (qea hN (hr.perm hN (EP _ _ _ _))).2
    . exact (qea hN hr).2
theorem qny (hN:0<N){nrem:Nat}{p:Array Nat}(h:Bd p N):InB N (kas_count nrem p)/\AllT (fun r=>Bd r.2 N) (kas_count nrem p):=by
  have hr:∀n,Bd (BI p 0 n) N:=fun n=>h.perm hN (EP _ _ _ _)
  refine ⟨Ib6 (qjv h _ _) Iba fun n _=>?_,AllT.bind (Iba (t:=kas_asc p (nrem - 1) 1)) fun n _=>?_⟩
  . show InB N (if (n==nrem)=true then Dl (n,p) else if n > 1 then .ask (At p 0) (At p (n - 1)) fun c=>if c=true then .ret (n,p) else Cu n nrem (BI p 0 n) else Cu n nrem p);split
    . trivial
    . split
      . refine ⟨h 0,h (n - 1),fun c=>?_⟩;show InB N (if c=true then Dl (n,p) else Cu n nrem (BI p 0 n));split
        . trivial
        . exact (qcc hN (hr n)).1
      . exact (qcc hN h).1
  . show AllT (fun r:Nat×Array Nat=>Bd r.2 N) (if (n==nrem)=true then Dl (n,p) else if n > 1 then .ask (At p 0) (At p (n - 1)) fun c=>if c=true then .ret (n,p) else Cu n nrem (BI p 0 n) else Cu n nrem p);split
    . exact h
    . split
      . intro c;show AllT (fun r:Nat×Array Nat=>Bd r.2 N) (if c=true then Dl (n,p) else Cu n nrem (BI p 0 n));split
        . exact h
        . exact (qcc hN (hr n)).2
      . exact (qcc hN h).2
theorem qg5 {p:Array Nat}(h:Bd p N)(k:Nat):∀(f l r:Nat),InB N (DD p k f l r)
  | 0,l,r=>trivial
  | f+1,l,r=>by
    show InB N (if l>=r then Dl l else .ask (At p k) (At p ((l+r) / 2)) fun c=>if c=true then DD p k f l ((l+r) / 2) else DD p k f ((l+r) / 2+1) r);split
    . trivial
    . refine ⟨h k,h _,fun c=>?_⟩;show InB N (if c=true then DD p k f l ((l+r) / 2) else DD p k f ((l+r) / 2+1) r);split
      . exact qg5 h k f _ _
      . exact qg5 h k f _ _
theorem qnz (hN:0<N):∀(f:Nat) (p:Array Nat) (k:Nat),Bd p N->InB N (kas_bin f p k)
  | 0,p,k,h=>trivial
  | f+1,p,k,h=>Ib6 (qg5 h k k 0 k) Iba fun l _=>qnz hN f _ _ (h.perm hN (bubble_perm _ _ _))
theorem qpo (hN:0<N):InB N (EQ N):=by
  have h0:Bd (BQ (Ac N)) N:=.of_mem hN fun x hx=>by simpa using hx
  refine AD ?_ (qny (nrem:=N) hN h0);intro h1 h2;refine Ib6 h1 h2 fun r hr=>?_
  show InB N (if r.1<N then kas_bin (N - max r.1 1) r.2 (max r.1 1) else Dl r.2);split
  . exact qnz hN _ _ _ hr
  . trivial
end
theorem qin {cmp:Nat->Nat->(Bool->Al->Prop)->Al->Prop}{lt:Nat->Nat->Bool}{Q:α->Al->Prop}(hc:∀i j C,i<N->j<N->C (lt i j) s->cmp i j C s):∀(t:KasT α),InB N t->Q (qek lt t) s->t.kasWp cmp Q s
  | .ret a,_,h=>h
  | .ask i j k,⟨h1,h2,h3⟩,h=>hc i j _ h1 h2 (qin hc (k (lt i j)) (h3 _) h)
def KeyOk (W:Wd) (keys:List AV) (lt:Nat->Nat->Bool):Prop:=
  ∀(g:Addr->Own) (h:Heap) (ks:List Value),RVs W g h keys ks->2<=keys.length->∃κ:SortKind,(∀(A:BF) (s:Al) (Q:SortKind->Al->Prop) (E:Value->Al->Prop),s.heap=h->Q κ s->wpAny (model W.prog W.w) A (keyKind' ks.toArray) Q E s) /\
    ∀(A:BF) (s:Al) (i j:Nat) (C:Bool->Al->Prop),s.heap=h->i<keys.length->j<keys.length->C (lt i j) s->kas_ask W.prog W.w A κ ks i j C s
noncomputable abbrev qgp (ps:List (Int×Int)):List AV:=ps.map fun p=>.tup [.int p.1,.int p.2]
theorem KeyOk.pairs {ps:List (Int×Int)}:KeyOk W (qgp ps) (fun i j=>decide ((ps.getD i (0,0)).1<(ps.getD j (0,0)).1\/((ps.getD i (0,0)).1=(ps.getD j (0,0)).1/\(ps.getD i (0,0)).2<(ps.getD j (0,0)).2))):=fun g h ks r h2=>by
  have hlen:ks.length=ps.length:=by rw[r.length];simp
  have hat:∀i,i<ps.length->∃a vs n t u,ks.getD i Value.none=.ref a/\h.get? a=some (qkg vs n)/\vs.toList=[.int (ps.getD i (0,0)).1 t,.int (ps.getD i (0,0)).2 u]:=fun i hi=>by
    refine qln (r.getA (i:=i) (a:=.tup [.int ps[i].1,.int ps[i].2]) (by simp[hi])) ?_;intro v hv a vs n eq_6_5 _ ho hr;subst eq_6_5;refine qa1 (hr) ?_;(try clear hr);intro v1 q1 e1 ne_7_3 hr;refine Aq ne_7_3 ?_;intro t eq_0_1;subst eq_0_1;refine qa1 (hr) ?_;(try clear hr);intro v2 q2 eq_8_2 ne_8_3 hr;subst eq_8_2;refine Aq ne_8_3 ?_;intro u eq_1_1;subst eq_1_1;obtain rfl:q2=[]:=hr;have e0:ps.getD i (0,0)=ps[i]:=by rw[Ae,Ad hi];rfl
    exact ⟨a,vs,n,t,u,by rw[Ae,hv];rfl,ho,by rw[e1,e0]⟩
  have tups:∀{ps:List (Int×Int)} {ks:List Value},RVs W g h (qgp ps) ks->∃fs,KatTups h ks fs/\IntsAre fs (ps.map (·.1)):=by
    intro ps;induction ps with
    | nil=>intro ks r;obtain rfl:ks=[]:=r;exact ⟨[],KatTups.nil,.nil⟩
    | cons p ps ih=>
      intro ks r;refine qa1 (r) ?_;intro v q eq_9_2 ne_9_3 r2;subst eq_9_2;refine qa2 ne_9_3 ?_;intro a vs n eq_2_3 _ ho hr;subst eq_2_3;refine qa1 (hr) ?_;(try clear hr);intro v1 q1 e1 ne_10_3 hr;refine Aq ne_10_3 ?_;intro t eq_3_1;subst eq_3_1;refine qa5 (ih r2) ?_;intro fs k1 k2;have hv:vs[0]?=some (.int p.1 t):=by rw[<- BL,e1];rfl
      exact ⟨_::fs,KatTups.cons ho rfl rfl hv k1,.cons _ _ k2⟩
  refine ⟨tuples' (Value.type "int" != Value.type "tuple"),fun A s Q E hs hq=>?_,fun A s i j C hs hi hj hq=>?_⟩
  . refine qa5 (tups r) ?_;intro fs k1 k2;have hfl:fs.length=ps.length:=by rw[k2.length];simp
    refine kat_kind (hs ▸ k1) (by rw[hfl];have:2<=(qgp ps).length:=h2;simp at this;lia) (fun v hv=>?_) (by rfl) hq;refine qjj (k2.all v hv) ?_;intro n t eq_13_2;subst eq_13_2;exact Looks.of_pure rfl
  . have hi':i<ps.length:=by simpa using hi
    have hj':j<ps.length:=by simpa using hj
    refine qg0 (hat i hi') ?_;intro a vs n t u e1 e2 e3;refine qg0 (hat j hj') ?_;intro a' vs' n' t' u' f1 f2 f3;unfold kas_ask;rw[e1,f1];refine kat_lt (by rw[hs];exact e2) rfl (by rw[hs];exact f2) rfl ?_;dsimp only at hq;have hsz:vs.size=vs'.size:=by rw[<- AC,<- AC,e3,f3];rfl
    rw[e3,f3,hsz,show decide (vs'.size<vs'.size)=false by simp];show KatLex W.prog W.w A _ false C [(.int _ t,.int _ t'),(.int _ u,.int _ u')] 0 s;refine kat_cons (wpAny_eqBool_int (kat_go (fun h1=>kat_yes (kat_cons (wpAny_eqBool_int (kat_go (fun h2=>kat_yes (kat_nil ?_)) fun h2=>kat_no ?_)))) fun h1=>kat_no ?_))
    . have h1':=CK h1;have h2':=CK h2;have:decide ((ps.getD i (0,0)).1<(ps.getD j (0,0)).1\/((ps.getD i (0,0)).1=(ps.getD j (0,0)).1/\(ps.getD i (0,0)).2<(ps.getD j (0,0)).2))=false:=by
        rw[h1',h2'];simp
      rw[this] at hq;exact hq
    . have h1':=CK h1;refine kat_one _ _ (PyProof.Rows.lt_int ?_);show C _ s;have:decide ((ps.getD i (0,0)).1<(ps.getD j (0,0)).1\/((ps.getD i (0,0)).1=(ps.getD j (0,0)).1/\(ps.getD i (0,0)).2<(ps.getD j (0,0)).2))=decide ((ps.getD i (0,0)).2<(ps.getD j (0,0)).2):=by
        rw[h1'];simp
      rw[this] at hq;exact hq
    . have h1':(ps.getD i (0,0)).1≠(ps.getD j (0,0)).1:=fun e=>by rw[e] at h1;simp at h1
      refine oneLt_int ?_;have:decide ((ps.getD i (0,0)).1<(ps.getD j (0,0)).1\/((ps.getD i (0,0)).1=(ps.getD j (0,0)).1/\(ps.getD i (0,0)).2<(ps.getD j (0,0)).2))=decide ((ps.getD i (0,0)).1<(ps.getD j (0,0)).1):=by
        exact decide_eq_decide.mpr ⟨fun q=>q.elim id fun q=>absurd q.1 h1',.inl⟩
      rw[this] at hq;exact hq
end
section
noncomputable def qep (lt:Nat->Nat->Bool) (l:List AV):List AV:=if l.length<2 then l else (qek lt (EQ l.length)).toList.map fun i=>l.getD i .none
theorem RVs.pickN {vs:List Value}(r:RVs W g h l vs):∀(is:List Nat),(∀i∈is,i<l.length)->RVs W g h (is.map fun i=>l.getD i .none) (is.map fun i=>vs.getD i Value.none)
  | [],_=>rfl
  | i::is,hi=>by
    have h1:i<l.length:=hi i (.head _);refine qa5 (r.getA (Ad h1)) ?_;intro v hv rv;refine ⟨_,_,rfl,?_,RVs.pickN r is fun j hj=>hi j (.tail _ hj)⟩;show RV W g h (l.getD i .none) (vs.getD i Value.none);rw[Ae,Ad h1,Ae,hv];exact rv
theorem Priv.list {vs:Array Value}(R:Rep W fr g σ s)(ha:s.heap.get? a=none)(ho:h'.get? a=some (qaa vs n)):Priv W g h' a:=
  ⟨R.newO ha,R.new1 ha,_,ho,by nofun,by nofun,by nofun,by simp⟩
theorem Priv.list2 {vs:Array Value}(p:Priv W g h a)(ho:h'.get? a=some (qaa vs n)):Priv W g h' a:=
  ⟨p.own,p.new,_,ho,by nofun,by nofun,by nofun,by simp⟩
section
theorem ql0 {f:AV}{vf:Value}{kS:Addr}{body:Value->PUnit->Sem (ForInStep PUnit)}(rm:Room k fr A)(hne:a≠kS)(hb:∀(u:Value) (s:Al) (Q:Al->Prop),wpAny (model W.prog W.w) A (call vf [u]) (fun v s'=>∃vs' n',s'.heap.get? kS=some (qaa vs' n')/\vs'.size<64/\Q { s' with heap:=s'.heap.update kS (AO (·.push v)) }) (fun _ _=>False) s ->
        wpAny (model W.prog W.w) A (body u ⟨⟩) (fun r s'=>r=.yield ⟨⟩/\Q s') E s):
    ∀(xs keys:List AV) (us:List Value) (acc:List AV) (g:Addr->Own) (s:Al) (Q:PUnit->Al->Prop),Rep W fr g σ s->RVs W g s.heap xs us->RV W g s.heap f vf->Acc W g s.heap kS acc->Priv W g s.heap a->∀oa,s.heap.get? a=some oa->keys.length=xs.length ->
      (∀(i:Nat) (x y:AV),xs[i]?=some x->keys[i]?=some y->Calls W noY k fr σ f [x] [] [] y σ)->plains keys=true->acc.length+xs.length<64 ->
      (∀g' s',Rep W fr g' σ s'->Evo W (·=kS) noY g s.heap g' s'.heap->Acc W g' s'.heap kS (acc++keys)->Priv W g' s'.heap a->s'.heap.get? a=some oa->Q ⟨⟩ s') ->
      wpAny (model W.prog W.w) A (forIn us Ce body) Q E s
  | [],keys,us,acc,g,s,Q,R,ru,rf,ac,pa,oa,ho,hl,hc,hp,hz,hQ=>by
    obtain rfl:us=[]:=ru;have:keys=[]:=List.length_eq_zero_iff.mp hl;subst this;rw[Bf] at hQ;rw[Dh];exact Ag (hQ g s R Evo.refl ac pa ho)
  | x::xs,[],us,acc,g,s,Q,R,ru,rf,ac,pa,oa,ho,hl,hc,hp,hz,hQ=>by simp at hl
  | x::xs,y::keys,us,acc,g,s,Q,R,ru,rf,ac,pa,oa,ho,hl,hc,hp,hz,hQ=>by
    refine qa1 (ru) ?_;intro u us' eq_1_2 ru1 ru2;subst eq_1_2;rw[Cj];have hp':(plain y&&plains keys)=true:=hp;rw[AG] at hp';refine qcr (ac.obj) ?_;intro vs n hk hkr;have hvs:vs.size=acc.length:=by rw[<- AC,hkr.length]
    simp only[BY] at hz hl;refine Aa (AB (hb u s (fun s'=>wpAny (model W.prog W.w) A (forIn us' Ce body) Q E s') (hc 0 x y rfl rfl A g s vf [u] [] rm R rf ⟨u,[],rfl,ru1,rfl⟩ rfl _ _ fun v g1 s1a R1 e1a rv=>?_)) (fun r s' hr=>by obtain ⟨rfl,hr⟩:=hr;exact hr) fun _ _ e=>e);have ac1:=ac.up e1a;refine qcr (ac1.obj) ?_;intro vs1 n1 hk1 hkr1;have hvs1:vs1.size=acc.length:=by rw[<- AC,hkr1.length]
    refine ⟨vs1,n1,hk1,by lia,?_⟩;obtain ⟨ho1,pa1⟩:=Iat e1a pa ho;have s1:=Bj s1a.heap kS (AO (·.push v));have hX:∀b,b=kS->Priv W g1 s1a.heap b:=fun b q=>q ▸ ac1.priv
    obtain ⟨R2,e2a⟩:=R1.turn2 (g':=g1) (h':=s1a.heap.update kS (AO (·.push v))) s1a.toks (·=kS) hX (fun _ _ _ _=>rfl) (fun b q=>.inl (q ▸ ac1.priv.own)) (fun b q=>.inl (R1.newO q)) (fun b o q hb=>(s1.2 b hb).trans q);have hnew:=Gq (c := "list") hk1 (·.push v);have ac2:Acc W g1 (s1a.heap.update kS (AO (·.push v))) kS (acc++[y]):=⟨ac1.priv.list2 hnew,⟨_,_,hnew,by
      rw[C8];exact (hkr1.mono e2a (Priv.xok hX) acc (.inr ac.pl) _).append ⟨v,[],rfl,rv.mono e2a (Priv.xok hX) y (.inr hp'.1) _,rfl⟩⟩,by rw[qal,ac.pl];show (true&&(plain y&&true))=true;rw[hp'.1];rfl⟩
    have ho2:(s1a.heap.update kS (AO (·.push v))).get? a=some oa:=(s1.2 a hne).trans ho1;have pa2:Priv W g1 (s1a.heap.update kS (AO (·.push v))) a:=by
      refine qa5 (pa1.obj) ?_;intro o' ho' q;rw[ho1] at ho';obtain rfl:=Sj ho';exact ⟨pa1.own,pa1.new,oa,ho2,q⟩
    have hXo:∀b,b=kS->g1 b=.other:=fun b q=>q ▸ ac1.priv.own
    refine ql0 rm hne hb xs keys us' (acc++[y]) g1 _ Q R2 ((ru2.up e1a).mono e2a (Priv.xok hX) xs (.inl hXo) _) ((rf.up e1a).mono e2a (Priv.xok hX) f (.inl hXo) _) ac2 pa2 oa ho2 (by simp_all)
      (fun i x' y' h1 h2=>hc (i+1) x' y' (by simpa using h1) (by simpa using h2)) hp'.2 (by rw[Ao,BJ];lia) fun g' s' R' e' ac' pa' ho'=>hQ g' s' R' ((e1a.toX.trans e2a).trans e') (by simpa using ac') pa' ho'
theorem qmn {kS:Addr}{st:SortSt}{e e1:Nat}{ks:Array Value}{out:List Value}{P:PySem.Fin->Al->Prop}(hne:a≠kS)(hk:s.heap.get? kS=some (qaa ks e))(ha:s.heap.get? a=some (qaa #[] e1))(hout:(arrOf st).map (·.2)=BQ out)(hz:out.length<64)(hkz:ks.size<64)(hf:failedOf st=none)(h:P (.done (.ret .none)) { s with heap:=(s.heap.update kS (AO fun _=>(#[]:Array Value))).update a (AO fun _=>BQ out) }):wpAny (model prog w) A (ksk_tail a false e1 (.ref kS) st) P E s:=by
  have s1:=Bj s.heap kS (AO fun _=>(#[]:Array Value));have ha':(s.heap.update kS (AO fun _=>(#[]:Array Value))).get? a=some (qaa #[] e1):=(s1.2 a hne).trans ha;unfold ksk_tail;try dsimp only
  rw[hout];refine Aa (FN hk rfl ?_ (by rw[Ay];lia) (AI _));refine Aa (wpAny_letGo ?_);refine Aa (seqEpoch_at ha' rfl ?_);refine Aa (FN ha' rfl ?_ (AI _) (Af (BE (by show (BQ out).size=out.length;exact Cd ..)) (by rw[Ay];lia)));rw[hf];simp only[bne_self_eq_false,AY,if_false];exact Ag h
theorem qi3 {f:AV}{keys:List AV}{lt:Nat->Nat->Bool}{q:Addr}(rm:Room (k+2) fr A)(hL:Lv σ v l)(R:Rep W fr g σ s)(rl:RV W g s.heap v (.ref la))(rf:RV W g s.heap f (.ref q))(h64:l.length<64)(hl:keys.length=l.length)(hc:∀(i:Nat) (x y:AV),l[i]?=some x->keys[i]?=some y->Calls W noY k fr σ f [x] [] [] y σ)(hp:plains keys=true)(hpl:plains l=true)(hK:KeyOk W keys lt)(S:SWO lt)(hQ:∀v' g' s',Rep W fr g' σ s'->Evo W noX noY g s.heap g' s'.heap->RV W g' s'.heap (.lst (qep lt l)) v'->Q v' s'):wpAny (model W.prog W.w) A (call (.builtin "sorted") [.ref la] [(BP "key",.ref q)]) Q E s:=by
  refine qa2 (hL.at R rl) ?_;intro la' vsA nl e0 hlo hlr _;cases e0
  obtain ⟨vs,rfl⟩:∃vs:List Value,vsA=vs.toArray:=⟨vsA.toList,by rfl⟩
  have hlr:RVs W g s.heap l vs:=by simpa using hlr
  have hvl:vs.length=l.length:=hlr.length;have rm2:Room k fr A.in1.in1:=rm.in1.in1;refine call_function_entry_kw kind_sorted plain_sorted entry_sorted (ksk_s1 _ _) ?_;unfold AA.«sorted»;refine Aa (m:=checkCount "sorted" 1 1 _) (Ag ?_);refine Aa (collect_list (qav hlo) ?_ (by rw[Ay];lia));refine Aa (wpAny_newList ?_ (by rw[Ay];lia));have hsz:((s.heap.push (EW "list" #[] 0)).update s.heap.objs.size (AO (·++vs.toArray))).objs.size=s.heap.objs.size+1:=by
    rw[Heap.size_update,size_push']
  have hoL:(((s.heap.push (EW "list" #[] 0)).update s.heap.objs.size (AO (·++vs.toArray))).push (EW "list" vs.toArray 0)).get? (s.heap.objs.size+1)=some (EW "list" vs.toArray 0):=by
    rw[<- hsz];exact Ar _ rfl
  have keep:∀b o,s.heap.get? b=some o->(((s.heap.push (EW "list" #[] 0)).update s.heap.objs.size (AO (·++vs.toArray))).push (EW "list" vs.toArray 0)).get? b=some o:=fun b o q=>by
    have hlt:b<s.heap.objs.size:=F8 q;rw[Heap.get?_push_ne _ _ _ (by rw[hsz];exact B9 (Cc hlt)),DS _ _ _ _ (B9 hlt),Heap.get?_push_ne _ _ _ (B9 hlt)];exact q
  have hsz0:(((s.heap.push (EW "list" #[] 0)).update s.heap.objs.size (AO (·++vs.toArray))).push (EW "list" vs.toArray 0)).objs.size=s.heap.objs.size+2:=by rw[size_push',hsz]
  show wpAny _ _ _ _ _ { s with heap:=((s.heap.push (EW "list" #[] 0)).update s.heap.objs.size (AO (·++vs.toArray))).push (EW "list" vs.toArray 0) };rw[hsz];generalize ((s.heap.push (EW "list" #[] 0)).update s.heap.objs.size (AO (·++vs.toArray))).push (EW "list" vs.toArray 0)=H0 at hoL keep hsz0 ⊢;refine Aa (AK (wpAny_call_entry_kw slot_list_sort ⟨_,hoL,rfl⟩ entry_list_sort ?body (ksk_l1 _ _)));case body=>
    show wpAny (model W.prog W.w) A.in1.in1 (AA.«list.sort» ⟨[.ref (s.heap.objs.size+1)],[(BP "key",.ref q)]⟩) _ _ _;rw[ksk_t1];have hna:s.heap.get? (s.heap.objs.size+1)=none:=Cw (DM _);have s1:=Bj H0 (s.heap.objs.size+1) (AO fun _=>(#[]:Array Value));obtain ⟨e1,ho1⟩:∃e1,(H0.update (s.heap.objs.size+1) (AO fun _=>(#[]:Array Value))).get? (s.heap.objs.size+1)=some (EW "list" #[] e1):=⟨_,Gq hoL fun _=>#[]⟩
    have keep1:∀b o,s.heap.get? b=some o->(H0.update (s.heap.objs.size+1) (AO fun _=>(#[]:Array Value))).get? b=some o:=fun b o hb=>(s1.2 b (fun q=>by rw[q,hna] at hb;cases hb)).trans (keep b o hb)
    have hsz1:(H0.update (s.heap.objs.size+1) (AO fun _=>(#[]:Array Value))).objs.size=s.heap.objs.size+2:=by rw[Heap.size_update,hsz0]
    unfold ksk_tree;refine Aa (listItems_at hoL rfl ?_);refine Aa (FN hoL rfl ?_ (by rw[Cd,Ay];lia) (AI _));refine Aa (seqEpoch_at ho1 rfl ?_);refine Aa (wpAny_newTuple ?_ (by show vs.length<=_;rw[Ay];lia));refine Aa (wpAny_newList ?_ (AI _));refine AK ?_;have hsz2:((H0.update (s.heap.objs.size+1) (AO fun _=>(#[]:Array Value))).push { cls:=.type "tuple",data:=.seq vs.toArray.toList.toArray }).objs.size=s.heap.objs.size+3:=by rw[size_push',hsz1]
    have hkS:(((H0.update (s.heap.objs.size+1) (AO fun _=>(#[]:Array Value))).push { cls:=.type "tuple",data:=.seq vs.toArray.toList.toArray }).push { cls:=.type "list",data:=.seq (BQ []) }).get? (s.heap.objs.size+3)=some (qaa #[] 0):=by
      rw[<- hsz2];exact Ar _ rfl
    have keep3:∀b o,s.heap.get? b=some o->(((H0.update (s.heap.objs.size+1) (AO fun _=>(#[]:Array Value))).push { cls:=.type "tuple",data:=.seq vs.toArray.toList.toArray }).push { cls:=.type "list",data:=.seq (BQ []) }).get? b=some o:=fun b o hb=>Au _ (Au _ (keep1 b o hb))
    have ho3:(((H0.update (s.heap.objs.size+1) (AO fun _=>(#[]:Array Value))).push { cls:=.type "tuple",data:=.seq vs.toArray.toList.toArray }).push { cls:=.type "list",data:=.seq (BQ []) }).get? (s.heap.objs.size+1)=some (qaa #[] e1):=Au _ (Au _ ho1);show wpAny (model W.prog W.w) A.in1.in1 (ksk_rest (s.heap.objs.size+1) (.ref q) false vs.toArray e1 (.ref ((H0.update (s.heap.objs.size+1) (AO fun _=>(#[]:Array Value))).push { cls:=.type "tuple",data:=.seq vs.toArray.toList.toArray }).objs.size)) _ _ { s with heap:=((H0.update (s.heap.objs.size+1) (AO fun _=>(#[]:Array Value))).push { cls:=.type "tuple",data:=.seq vs.toArray.toList.toArray }).push { cls:=.type "list",data:=.seq (BQ []) } };rw[hsz2];generalize ((H0.update (s.heap.objs.size+1) (AO fun _=>(#[]:Array Value))).push { cls:=.type "tuple",data:=.seq vs.toArray.toList.toArray }).push { cls:=.type "list",data:=.seq (BQ []) }=H3 at hkS keep3 ho3 ⊢;have hnk:s.heap.get? (s.heap.objs.size+3)=none:=Cw (by simp +arith);obtain ⟨R3,e3a⟩:=R.keepsAll keep3;have ac:Acc W g H3 (s.heap.objs.size+3) []:=⟨Priv.list R hnk hkS,⟨_,_,hkS,rfl⟩,rfl⟩
    have pa:Priv W g H3 (s.heap.objs.size+1):=Priv.list R hna ho3;have hne:s.heap.objs.size+1≠s.heap.objs.size+3:=by exact qc7 rfl
    unfold ksk_rest;refine Aa (GQ ?_);first
      | rw[List.forIn_toArray]
      | (rw[<- Array.forIn_toList];simp only[List.toList_toArray])
    refine Aa (ql0 rm2 hne (fun u s' Q' hcall=>?_) l keys vs [] g { s with heap:=H3 } _ R3 (hlr.up e3a) (rf.up e3a) ac pa _ ho3 hl hc hp (by simpa using h64) fun g4 s4 R4 e4 ac4 pa4 ho4=>?_)
    . refine Aa (wpAny_attempt (AB hcall (fun v s'' hv=>?_) fun _ _ x=>x.elim));refine qa1 (hv) ?_;intro vs' n' hk' hz' hq';refine Aa (FN hk' rfl ?_ (by rw[Ay];lia) (Af (BE (Array.size_push ..)) (by rw[Ay];lia)));exact Ag ⟨rfl,hq'⟩
    . refine qcr (ac4.obj) ?_;intro ksA nk hk4 hkr4;obtain ⟨ks,rfl⟩:∃ks:List Value,ksA=ks.toArray:=⟨ksA.toList,by rfl⟩
      have hkr:RVs W g4 s4.heap keys ks:=by simpa using hkr4
      have hkl:ks.length=vs.length:=by rw[hkr.length,hl,hvl]
      have hlr4:RVs W g4 s4.heap l vs:=(hlr.up e3a).mono e4 (Priv.xok fun b q=>by subst q;exact ac.priv) l (.inl fun b q=>by subst q;exact ac.priv.own) vs;refine Aa (listItems_at hk4 rfl ?_);have fin:∀(out:List Value) (st:SortSt),(arrOf st).map (·.2)=BQ out->failedOf st=none->RVs W g4 s4.heap (qep lt l) out->out.length=l.length ->
          wpAny (model W.prog W.w) A.in1.in1 (ksk_tail (s.heap.objs.size+1) false e1 (.ref (s.heap.objs.size+3)) st) (fun fin s'=>∃v,fin=PySem.Fin.done (.ret v)/\wpAny (model W.prog W.w) A.in1 (ret (.ref (s.heap.objs.size+1))) (fun fin s'=>∃v,fin=PySem.Fin.done (.ret v)/\Q v s') E s') E s4:=fun out st h1 h2 h3 h4=>by
        refine qmn hne hk4 ho4 h1 (by simp_all) (by rw[Cd];simp_all) h2 ⟨_,rfl,Ag ⟨_,rfl,?_⟩⟩;have t1:=Bj s4.heap (s.heap.objs.size+3) (AO fun _=>(#[]:Array Value));have t2:=Bj (s4.heap.update (s.heap.objs.size+3) (AO fun _=>(#[]:Array Value))) (s.heap.objs.size+1) (AO fun _=>BQ out);have hna':=Gq (c := "list") ((t1.2 _ hne).trans ho4) fun _=>BQ out
        have hX:∀b,(b=s.heap.objs.size+3\/b=s.heap.objs.size+1)->Priv W g4 s4.heap b:=fun b q=>by
          rcases q with rfl | rfl
          . exact ac4.priv
          . exact pa4
        obtain ⟨R5,e5⟩:=R4.turn2 (g':=qc6 g4 (s.heap.objs.size+1) .fz) (h':=(s4.heap.update (s.heap.objs.size+3) (AO fun _=>(#[]:Array Value))).update (s.heap.objs.size+1) (AO fun _=>BQ out)) s4.toks (fun b=>b=s.heap.objs.size+3\/b=s.heap.objs.size+1) hX
          (fun b o _ q=>qa9 fun z=>q (.inr z)) (fun b q=>by
            rcases q with rfl | rfl
            . rw[qa9 hne.symm];exact .inl ac4.priv.own
            . exact .inr ⟨qa4,_,hna'⟩) (fun b q=>by
            by_cases z:b=s.heap.objs.size+1
            . subst z;rw[ho4] at q;cases q
            . rw[qa9 z];exact .inl (R4.newO q)) (fun b o q z=>by
            rw[not_or] at z;exact (t2.2 b z.2).trans ((t1.2 b z.1).trans q))
        refine hQ _ _ _ R5 ?_ ⟨_,_,_,rfl,qa4,hna',?_⟩
        . have e45:=(e4.inX (X':=fun b=>b=s.heap.objs.size+3\/b=s.heap.objs.size+1) fun b q=>.inl q).trans e5;exact (e3a.toX.trans e45).weak R.low (fun b o ho q=>by rcases q with rfl | rfl <;> (first | rw[hnk] at ho | rw[hna] at ho) <;> cases ho) fun _ q=>q
        . simpa using h3.mono e5 (Priv.xok hX) _ (.inl fun b q=>(hX b q).own) out
      unfold ksk_end;try dsimp only
      by_cases hn:l.length<2
      . have hn':vs.toArray.size<2:=by rw[Cd];simp_all
        rw[if_pos hn',if_pos hn'];refine Aa (Ag (Aa (Ag ?_)));refine fin vs _ ?_ rfl (by unfold qep;rw[if_pos hn];exact hlr4) hvl;show ((ks.toArray.zip vs.toArray).map (·.2))=vs.toArray;apply Array.toList_inj.mp;simp[List.map_snd_zip,hkl]
      . have hn':¬vs.toArray.size<2:=by rw[Cd];simp_all
        rw[if_neg hn',if_neg hn'];refine qa5 (hK g4 s4.heap ks hkr (by simp_all)) ?_;intro κ hkind hask;refine Aa (hkind _ s4 _ _ rfl ?_);refine qgj (qkl (N:=vs.length) S (by lia)) ?_;intro z1 z2 z3;refine Aa (AB (kat_run (Q:=fun st' s'=>s'=s4/\arrOf st'=(qek lt (EQ vs.length)).map (kas_item (ks.toArray.zip vs.toArray))/\failedOf st'=none) (G:=fun p s'=>p=qek lt (EQ vs.length)/\s'=s4) hkl (by simp_all) (by simp_all) (fun p st' s' a1 a2 a3 a4=>by
          obtain ⟨rfl,rfl⟩:=a4;exact ⟨rfl,a2,a3⟩) (qin (N:=vs.length) (lt:=lt) (fun i j C hi hj hC=>hask _ s4 i j C rfl (by simp_all) (by simp_all) hC) _ (qpo (by lia)) ⟨rfl,rfl⟩)) ?_ fun _ _ x=>x)
        rintro ⟨⟨⟩,st'⟩ s' ⟨rfl,har,hf⟩
        refine fin _ st' (kat_snds hkl har) hf ?_ ?_
        . unfold qep;rw[if_neg hn,<- hvl];exact hlr4.pickN _ fun i hi=>by
            have:=z2.mem_iff.mp hi;rw[Bi] at this;simp_all
        . rw[Ab,AC,z1,hvl]
end
end
section
section
theorem Ico {f:AV}{keys:List AV}{lt:Nat->Nat->Bool}{kx:Str}(hkx:kx=BP "key")(hf:∀(g:Addr->Own) (h:Heap) (u:Value),RV W g h f u->∃q,u=.ref q)(hL:Lv σ v l)(h64:l.length<64)(hl:keys.length=l.length)(hc:∀(i:Nat) (x y:AV),l[i]?=some x->keys[i]?=some y->Calls W noY k fr σ f [x] [] [] y σ)(hp:plains keys=true)(hpl:plains l=true)(hK:KeyOk W keys lt)(S:SWO lt):
    Calls W Y (k+2) fr σ (.glob (.builtin "sorted")) [v] [kx] [f] (.lst (qep lt l)) σ:=fun A g s vf us ks rm R rf ru rk Q E hQ=>by
  subst hkx;obtain rfl:vf=.builtin "sorted":=rf;refine qa1 (ru) ?_;(try clear ru);intro u q eq_0_2 ru rq;subst eq_0_2;obtain rfl:q=[]:=rq;refine qa1 (rk) ?_;(try clear rk);intro u' q eq_1_2 rk rq;subst eq_1_2;obtain rfl:q=[]:=rq;obtain ⟨q,rfl⟩:=hf _ _ _ rk;refine qbw (hL.at R ru) ?_;intro la vs n eq_3_3 _;subst eq_3_3;exact qi3 rm hL R ru rk h64 hl hc hp hpl hK S fun v' g' s' R' e' rv=>hQ v' g' s' R' e'.no rv
end
theorem SWO.pairs {f g:Nat->Int}:SWO (fun i j=>decide (f i<f j\/(f i=f j/\g i<g j))):=
  ⟨fun h=>decide_eq_false (qtc (of_decide_eq_true h)),fun h k=>decide_eq_true (qta (of_decide_eq_true h) (of_decide_eq_true k)),fun h k=>decide_eq_false fun q=>(qtb q).elim (of_decide_eq_false h) (of_decide_eq_false k)⟩
theorem qlh {lt:Nat->Nat->Bool}(S:SWO lt)(l:List AV):∃p:List Nat,p.Perm (Ac l.length)/\p.Pairwise (Prec lt)/\qep lt l=p.map fun i=>l.getD i .none:=by
  by_cases h:l.length<2
  . refine ⟨Ac l.length,.refl _,?_,?_⟩
    . match l,h with
      | [],_=>simp
      | [_],_=>simp
    . unfold qep;rw[if_pos h];match l,h with
      | [],_=>rfl
      | [_],_=>rfl
  . refine qgj (qkl S (N:=l.length) (by lia)) ?_;intro h1 h2 h3;exact ⟨_,h2,h3,by unfold qep;rw[if_neg h]⟩
end
section
def Weak (m2 m:List (Option AV)):Prop:=∀(i:Nat) (av:AV),m[i]?=some (some av)->m2[i]?=some (some av)
theorem Weak.refl:Weak m m:=fun _ _ h=>h
noncomputable def mkN:Nat->List (Option AV)->List (Option AV)
  | _,[]=>[]
  | n,a::l=>bif DF (n % 2) 1 then none::mkN (n / 2) l else a::mkN (n / 2) l
theorem Ia6 (n:Nat){l:List (Option AV)}:Weak l (mkN n l):=by
  induction l generalizing n with
  | nil=>exact Weak.refl
  | cons a l ih=>
    intro i av q;have q:(bif DF (n % 2) 1 then none::mkN (n / 2) l else a::mkN (n / 2) l)[i]?=some (some av):=q;cases e:DF (n % 2) 1 with
    | true=>
      rw[e] at q;cases i with
      | zero=>exact nomatch q
      | succ i=>exact ih (n / 2) i av q
    | false=>
      rw[e] at q;cases i with
      | zero=>exact q
      | succ i=>exact ih (n / 2) i av q
theorem Weak.set (h:m[i]?=some none):Weak (m.set i (some v)) m:=fun j av q=>by
  by_cases e:j=i
  . subst e;rw[h] at q;cases q
  . rw[Bl (BH e)];exact q
theorem Ib5 (h:Weak m m')(hi:m'[i]?=some none):Weak (m.set i (some v)) m':=fun j av q=>by
  by_cases e:j=i
  . subst e;rw[hi] at q;cases q
  . rw[Bl (BH e)];exact h j av q
section
variable {outer:List Env} {m0:List (Option AV)}
theorem Exs.post (h:Exs C k fr m σ sts fl m2 z')(w:Weak m2 m'):Exs C k fr m σ sts fl m' z':=fun A env g s rm R F Q E hQ=>h A env g s rm R F Q E fun f' g' s' R' e' F' hf=>hQ f' g' s' R' e' (F'.weak w) hf
theorem Ex.post (h:Ex C k fr m σ st fl m2 z')(w:Weak m2 m'):Ex C k fr m σ st fl m' z':=fun A env g s rm R F Q E hQ=>h A env g s rm R F Q E fun f' g' s' R' e' F' hf=>hQ f' g' s' R' e' (F'.weak w) hf
theorem ForC.pre (h:ForC C k fr t body orelse ai i m σ fl m' z')(w:Weak m2 m):ForC C k fr t body orelse ai i m2 σ fl m' z':=fun A env g s it ws rm R F S hP Rr hR=>h A env g s it ws rm R (F.weak w) S hP Rr hR
theorem CompC.pre {acc':List AV}(h:CompC C k fr elt gens scope pos d ai i m σ acc m' z' acc')(w:Weak m2 m):CompC C k fr elt gens scope pos d ai i m2 σ acc m' z' acc':=
  fun A env g s it ws D rm R F S hP a hD Rr hR=>h A env g s it ws D rm R (F.weak w) S hP a hD Rr hR
theorem Ibn {X:Type}(hg:gens[d]?=some ⟨t,iter,ifs,0⟩)(hO:ai.Ok σ)(hp:ai.plain=true)(ht:ai.pairs=true->∃elts n p,t=.Tuple elts n p)(xs:List X)(enc:X->AV)(qks:X->List AV)(hx:ai.items=xs.map enc)(H:∀(x:X) (acc:List AV),x∈xs->acc.length+(qks x).length<=Ai->∃m1 m2 b,As C k fr m σ t (enc x) m1 σ/\Tests C k fr m1 σ ifs b σ/\((b=true/\Inner C k fr elt gens scope pos d m1 σ acc m2 σ (acc++qks x))\/(b=false/\m2=m1/\qks x=[]))/\Weak m2 m)(hns:∀g',gens[d+1]?=some g'->g'.is_async=0)(hz:acc.length+(xs.flatMap qks).length<=Ai):CompC C k fr elt gens scope pos d ai 0 m σ acc m σ (acc++xs.flatMap qks):=by
  have key:∀(r p:List X) (acc:List AV),xs=p++r->acc.length+(r.flatMap qks).length<=Ai->CompC C k fr elt gens scope pos d ai p.length m σ acc m σ (acc++r.flatMap qks):=by
    intro r;induction r with
    | nil=>
      intro p acc hr hz;rw[List.flatMap_nil,Bf];exact CompC.done hg hO (by rw[hx,hr];simp) hns
    | cons x r ih=>
      intro p acc hr hz;rw[B7,Ao] at hz;have hv:ai.items[p.length]?=some (enc x):=by rw[hx,hr];simp
      refine qa2 (H x acc (by rw[hr];simp) (by lia)) ?_;intro m1 m2 b ha hb hn w;have next:=ih (p++[x]) (acc++qks x) (by rw[hr];simp) (by rw[Ao];lia);rw[Ao,BJ,AX,<- B7] at next;refine CompC.turn hg hO hp hv ht ha hb ?_ (next.pre w) hns;rcases hn with ⟨h1,h2⟩ | ⟨h1,h2,h3⟩
      . exact .inl ⟨h1,h2⟩
      . exact .inr ⟨h1,h2,rfl,by rw[h3,Bf]⟩
  exact key xs [] acc rfl hz
end
noncomputable def qcz (m:List (Option AV)) (js:List (Option Nat)):List (Option AV):=js.map fun j=>j.bind fun j=>(m[j]?).join
noncomputable def qog (outer:List (Str×Ax)):List (Str×Ax)->List (Option Nat)->Bool
  | [],[]=>true
  | (x,kd)::names,j::js=>(match kd,j with
      | .free,some j=>(match outer[j]? with | some (y,kd')=>y==x&&kcl kd'==1 | none=>false)
      | .free,none=>false
      | .cell,_=>false
      | _,none=>true
      | _,some _=>false)&&qog outer names js
  | _,_=>false
noncomputable def ndB (names:List (Str×Ax)):Bool:=decide (names.map (·.1)).Nodup
theorem qr7 (h:ndB names=true):∀(i j:Nat) (x:Str) (k k':Ax),names[i]?=some (x,k)->names[j]?=some (x,k')->i=j:=fun i j x k k' h1 h2=>by
  have hn:(names.map (·.1)).Nodup:=of_decide_eq_true h;have e1:(names.map (·.1))[i]?=some x:=by rw[Aj,h1];rfl
  have e2:(names.map (·.1))[j]?=some x:=by rw[Aj,h2];rfl
  refine Aq (Ap.mp e1) ?_;intro hi e1;refine Aq (Ap.mp e2) ?_;intro hj e2;rcases Ek i j with q | q | q
  . exact absurd (e1.trans e2.symm) (Bo.mp hn i j hi hj q)
  . exact q
  . exact absurd (e2.trans e1.symm) (Bo.mp hn j i hj hi q)
theorem qhs {outer:List (Str×Ax)}:∀{names:List (Str×Ax)} {js:List (Option Nat)},qog outer names js=true->js.length=names.length/\∀(i:Nat) (x:Str) (kd:Ax),names[i]?=some (x,kd)->kd≠.cell/\(kd=.free->∃j kd',js[i]?=some (some j)/\outer[j]?=some (x,kd')/\kcl kd'=1)/\(kd≠.free->js[i]?=some none)
  | [],[],_=>⟨rfl,fun i x kd h=>by simp at h⟩
  | [],_::_,h=>by cases h
  | _::_,[],h=>by cases h
  | (y,ky)::names,j::js,h=>by
    have h':(_&&qog outer names js)=true:=h;rw[AG] at h';obtain ⟨h1,h2⟩:=qhs h'.2;refine ⟨by simp[h1],fun i x kd hi=>?_⟩;cases i with
    | succ i=>simp only[Dm] at hi ⊢;exact h2 i x kd hi
    | zero=>
      simp at hi;obtain ⟨rfl,rfl⟩:=hi;have h3:=h'.1;cases ky with
      | «local»=>cases j with | none=>exact ⟨by nofun,(fun q=>by cases q),fun _=>rfl⟩ | some j=>cases h3
      | globalExplicit=>cases j with | none=>exact ⟨by nofun,(fun q=>by cases q),fun _=>rfl⟩ | some j=>cases h3
      | globalImplicit=>cases j with | none=>exact ⟨by nofun,(fun q=>by cases q),fun _=>rfl⟩ | some j=>cases h3
      | cell=>cases j <;> cases h3
      | free=>
        cases j with
        | none=>cases h3
        | some j=>
          refine ⟨by nofun,fun _=>?_,fun q=>absurd rfl q⟩;simp only at h3;cases e:outer[j]? with
          | none=>rw[e] at h3;cases h3
          | some p=>
            obtain ⟨z,kz⟩:=p;rw[e] at h3;simp at h3;exact ⟨j,kz,rfl,by rw[e,h3.1],h3.2⟩
theorem CompIn.of (js:List (Option Nat))(h:qog C.nm names js=true)(hn:ndB names=true):CompIn C m names (qcz m js):=by
  refine AD ?_ (qhs h);intro h1 h2;refine ⟨qr7 hn,by simp[qcz,h1],fun i x hi=>?_,fun i x kd hi hk av q=>?_,.inl fun i x hi=>(h2 i x _ hi).1 rfl⟩
  . refine qa1 ((h2 i x _ hi).2.1 rfl) ?_;intro j kd e1 e2 e3;refine ⟨j,kd,e2,e3,fun av q=>?_⟩;simp only[qcz,Aj,e1] at q;simp at q;cases e:m[j]? with
    | none=>rw[e] at q;simp at q
    | some o=>rw[e] at q;simp at q;rw[q]
  . have:=(h2 i x kd hi).2.2 hk;simp[qcz,Aj,this] at q
end
section
noncomputable def qbj (p:Dq) (i:Nat):List Stmt:=match p.main.body[i]? with | some (.FunctionDef _ _ b _ _ _ _ _ _ _)=>b | _=>[]
noncomputable def qam (p:Dq) (i:Nat):Scope:=match p.main.body[i]? with | some (.FunctionDef _ _ _ _ _ _ s _ _ _)=>s | _=>p.main.scope
noncomputable def quf (p:Dq) (i:Nat):EE:=match p.main.body[i]? with | some (.FunctionDef _ a _ _ _ _ _ _ _ _)=>a | _=>{ posonlyargs:=[],args:=[],vararg:=none,kwonlyargs:=[],kw_defaults:=[],kwarg:=none,defaults:=[] }
structure Blt (W:Wd) (x:Str) (v:Value):Prop where
  g:W.mg x=none
  b:W.mb x=some v
section
theorem Ief {v:Value}(hi:C.nm[i]?=some (x,.globalImplicit))(h:Blt C.W x v)(hd:autoParam ((x==("__debug__":Str))=false) ap1._auto_1):Ev C k fr m σ (.Name x p) (.glob v) σ:=Idq hi h.g h.b hd
end
section
theorem Iar {a b:Int}(hb:b≠0)(hz:b.natAbs<2 ^ 64):Op2 W Y k fr σ (C5 .FloorDiv) (.int a) (.int b) (.int (a.fdiv b)) σ:=Op2.fdiv hb (by
  refine PyProof.noPylong_of_log2 ?_;have h0:b.natAbs≠0:=by simp_all
  have:=(Nat.log2_lt h0 (k:=64)).mpr hz;lia)
theorem Ic2 {t:Value->Value->Sem Value}{a b v':AV}(h:Op2 W Y k fr σ t a b v z')(e:v=v'):Op2 W Y k fr σ t a b v' z':=e ▸ h
theorem Iap {f:AV}{v':AV}(h:Calls W Y k fr σ f args kn kv v z')(e:v=v')(e2:z'=z''):Calls W Y k fr σ f args kn kv v' z'':=e ▸ e2 ▸ h
end
theorem Iag {v':AV}(h:Ev C k fr m σ e v z')(q:v=v'):Ev C k fr m σ e v' z':=q ▸ h
theorem Iaa {v v':Bool}(h:Tr C k fr m σ e v z')(q:v=v'):Tr C k fr m σ e v' z':=q ▸ h
end
section
noncomputable def qlx (b:Nat) (σ:List AObj):AObj->AObj
  | .lst l=>.lst (qel b σ l)
  | .dstr ks l=>.dstr ks (qel b σ l)
  | .dint ks l=>.dint ks (qel b σ l)
  | .fn0=>.fn0
  | .elem as l=>.elem as (qel b σ l)
  | .iter l=>.iter (qel b σ l)
  | .iterDone=>.iterDone
mutual
theorem qc5:(v:AV)->qbd b v=true->plain v=true
  | .loc n,_=>rfl
  | .tup l,h=>qbe l h
  | .lst l,h=>qbe l h
  | .bound f s,h=>qc5 s h
  | .clo ..,h=>by cases (h:false=true)
  | .none,_=>rfl
  | .bool _,_=>rfl
  | .int _,_=>rfl
  | .str _,_=>rfl
  | .glob _,_=>rfl
  | .any,_=>rfl
termination_by structural x=>x
theorem qbe:(l:List AV)->qad b l=true->plains l=true
  | [],_=>rfl
  | a::l,h=>by
    have h':(qbd b a&&qad b l)=true:=h;rw[AG] at h';show (plain a&&plains l)=true;rw[qc5 a h'.1,qbe l h'.2];rfl
termination_by structural x=>x
end
mutual
theorem qmz:(v:AV)->plain (frz b σ v)=true
  | .loc n=>by
    show plain (if n<b then .loc n else match σ[n]? with | some (.lst l)=>if qad b l then .lst l else .any | _=>.any)=true;split
    . rfl
    . split
      . split
        . rename_i h;exact qbe _ h
        . rfl
      . rfl
  | .tup l=>qbh l
  | .lst l=>qbh l
  | .bound f s=>by
    show plain (if qbd b s=true then AV.bound f s else .any)=true;split
    . rename_i h;exact qc5 s h
    . rfl
  | .clo ..=>rfl
  | .none=>rfl
  | .bool _=>rfl
  | .int _=>rfl
  | .str _=>rfl
  | .glob _=>rfl
  | .any=>rfl
termination_by structural x=>x
theorem qbh:(l:List AV)->plains (qel b σ l)=true
  | []=>rfl
  | a::l=>by
    show (plain (frz b σ a)&&plains (qel b σ l))=true;rw[qmz a,qbh l];rfl
termination_by structural x=>x
end
theorem qll:(ao:AObj)->qdb (qlx b σ ao)=true
  | .lst l=>qbh l
  | .dstr ks l=>qbh l
  | .dint ks l=>qbh l
  | .fn0=>rfl
  | .elem as l=>qbh l
  | .iter l=>qbh l
  | .iterDone=>rfl
theorem qg7:(ao:AObj)->qdk b ao=true->qlx b σ ao=ao
  | .lst l,h=>by show AObj.lst (qel b σ l)=_;rw[qan l h]
  | .dstr ks l,h=>by show AObj.dstr ks (qel b σ l)=_;rw[qan l h]
  | .dint ks l,h=>by show AObj.dint ks (qel b σ l)=_;rw[qan l h]
  | .fn0,_=>rfl
  | .elem as l,h=>by show AObj.elem as (qel b σ l)=_;rw[qan l h]
  | .iter l,h=>by show AObj.iter (qel b σ l)=_;rw[qan l h]
  | .iterDone,_=>rfl
section
theorem RO.exitF (R:Rep W fr g σ s)(hn:n<k):(ao:AObj)->RO W g s.heap a n ao->RO W (gx k g s.heap) s.heap a n (qlx k σ ao)
  | .lst l,r=>by refine qcr (r) ?_;intro vs m ho hr;exact ⟨vs,m,ho,RVs.exit R l _ hr⟩
  | .dstr keys l,r=>by refine qaj (r) ?_;intro vs hd hl hr;exact ⟨vs,hd,hl,RVs.exit R l _ hr⟩
  | .dint keys l,r=>by refine qaj (r) ?_;intro vs hd hl hr;exact ⟨vs,hd,hl,RVs.exit R l _ hr⟩
  | .fn0,r=>r
  | .elem attrs l,r=>by
    refine qah (r) ?_;intro fd d mh vs ho hd hm hr q;exact ⟨fd,d,mh,vs,ho,ql3 hd hn,hm,RVs.exit R l _ hr,q⟩
  | .iter l,r=>by
    refine qcq (r) ?_;intro la i vs m ho hg hl hr;exact ⟨la,i,vs,m,ho,qfe hg,hl,RVs.exit R l _ hr⟩
  | .iterDone,_=>(Bb:True)
theorem Rep.exitF (R:Rep W fr g σ s)(k:Nat)(hk:k<=σ.length):Rep W fr (gx k g s.heap) ((σ.take k).map (qlx k σ)) s:=by
  have ht:∀{n:Nat} {ao:AObj},((σ.take k).map (qlx k σ))[n]?=some ao->n<k/\∃ao',σ[n]?=some ao'/\ao=qlx k σ ao':=fun {n ao} q=>by
    rw[Aj,Fe] at q;split at q
    . rename_i hn;cases e:σ[n]? with
      | none=>rw[e] at q;cases q
      | some ao'=>rw[e] at q;obtain rfl:=Sj q;exact ⟨hn,ao',rfl,rfl⟩
    . cases q
  refine ⟨R.base,fun a o ha=>(R.baseO a o ha).imp qce qfe,fun a q=>qce (R.tabO a q),fun a q=>?_,fun a ha=>R.low a fun q=>ha (qce q),fun n ao q=>?_,
    fun a b n qa qb=>R.uniq a b n (qex qa).1 (qex qb).1,fun n ao q=>?_,fun a n q=>?_,fun e he=>?_,R.gens,R.os⟩
  . refine qaj (R.tabs a q) ?_;intro more h2 h3 h4;exact ⟨more,h2,h3,fun pos v e=>(h4 pos v e).exit⟩
  . refine qsx (ht q) ?_;intro hn ao' q' eq_6_3;subst eq_6_3;refine qa5 (R.locs n ao' q') ?_;intro a ha ro;exact ⟨a,qgv ha hn,ro.exitF R hn ao'⟩
  . refine qsx (ht q) ?_;intro hn ao' q eq_8_3;subst eq_8_3;exact qll ao'
  . rw[Ab,Df,DZ hk];rcases q with q | q
    . exact (qex q).2
    . exact (qlw q).2
  . refine qah (R.frs e he) ?_;intro f o es ep h1 h2 h3 h4 h5;exact ⟨f,o,es,ep,h1,h2,h3,qce h4,h5⟩
end
def Cl (σ:List AObj):Prop:=∀ao∈σ,qdk σ.length ao=true
theorem qs1 {ext:List AObj}(h:Cl σ):σ=((σ++ext).take σ.length).map (qlx σ.length (σ++ext)):=by
  rw[List.take_left' rfl];have:σ.map (qlx σ.length (σ++ext))=σ.map id:=AN fun ao hao=>qg7 ao (h ao hao)
  rw[this,List.map_id]
section
theorem Idl {fd:BS}(kp:Nat)(Fn:qqt C a fd body)(hb:qcu C.W fd args kn kv xs vs)(B:Binds C.nm xs vs (AR C.nm.length none) m1)(hbody:∀env,ExsF C k env fr m1 σ body fl m' z'')(hY:∀n,n<σ.length->C.Y n->Y n)(hkp:σ.length<=kp)(hkp2:kp<=z''.length)(hv:v=frz kp z'' (qer fl))(hs:z'=(z''.take kp).map (qlx kp z'')):Calls C.W Y (k+1) fr σ (.glob (.ref a)) args kn kv v z':=fun A g s vf us ks rm R rf ru rk Q E hQ=>by
  subst hv hs;obtain rfl:vf=.ref a:=rf;refine qa5 (Fn.get) ?_;intro o ho hd;refine qah (Fn.code) ?_;intro c oc cvs tq h1 h2 h3 h4 h5;refine qa5 (hb fr g σ s us ks R ru rk) ?_;intro ws hbt hws;refine EJ (DE rm.dep (R.base a o ho Fn.nt) hd Fn.co Fn.gen Fn.body ⟨c,oc,cvs,tq,h1,R.base c oc h2 h3,h4,h5⟩ (hbt _ _ _ _ ?_));rw[Fn.glob,Fn.clo,Fn.blt];refine qcs (C:=C) (m0:=AR C.nm.length none) Fn.nm Fn.nd Fn.kind Fn.lk (by exact Fn.cd) (fun o h=>by cases h) R (fun i x kd hi=>⟨fun hk=>by subst hk;exact absurd hi (Fn.nofree i x),fun _ av q=>by
    rw[Bw] at q;split at q <;> cases q⟩) (.inr fun i av q=>by rw[Bw] at q;split at q <;> cases q) B hws (by simp) fun env g1 s1a R1 e1a F1 hsc hL hcl hown hfr _ hRc=>?_
  refine ⟨R1.nolim,Ge ?_⟩;refine hbody env _ g1 s1a rm.deeper (hRc rfl) F1 _ _ fun f' g2 s2 R2 e2a F2 hf=>?_
  have hfresh:∀a o,s.heap.get? a=some o->FX C.nm env a->noX a:=fun a o ho ha=>by
    rcases ha with rfl | ⟨i,x,hi,hcx⟩
    . rw[hL] at ho;cases ho
    . rw[hown i x a hi hcx] at ho;cases ho
  have e12:Evo C.W noX C.Y g s.heap g2 s2.heap:=(e1a.no.toX.trans e2a).weak R.low hfresh fun _ q=>q
  have R3:=(R2.fewer (fr':=fr) fun e he=>Az _ he).exitF kp hkp2;have e13:Evo C.W noX Y g s.heap (gx kp g2 s2.heap) s2.heap:=(e12.exit (b:=σ.length) (fun a n q=>R.bnd a n q) hkp).wkB R hY;exact hQ (quj f') _ s2 R3 e13 (RV.exit R2 _ _ (qi5 hf))
end
end
section
theorem np {p:Prop}(h:false=true):p:=nomatch h
theorem qae {f:α->AV}(h:∀x,plain (f x)=true):∀(l:List α),plains (l.map f)=true
  | []=>by with_unfolding_all rfl
  | a::l=>by
    have q:=qae h l;show (plain (f a)&&plains (l.map f))=true;rw[h a,q];rfl
theorem qa3 {f:α->AV}(h:∀x,plain (f x)=true)(l:List α):plain (.lst (l.map f))=true:=qae h l
theorem qfo (l:List Int):plains (qa7 l)=true:=qae (fun _=>rfl) l
theorem qdn (l:List Int):plain (.lst (qa7 l))=true:=qfo l
section
variable {X:Type}
theorem qey {X Y:Type}{p:X->Bool}{f:X->Y}:∀(xs:List X),xs.flatMap (fun x=>if p x=true then [f x] else [])=(xs.filter p).map f
  | []=>rfl
  | x::xs=>by
    rw[B7,qey xs,List.filter_cons];split <;> simp
theorem Iaq {c:Expr}(hg:gens[d]?=some ⟨t,iter,[c],0⟩)(xs:List X)(enc:X->AV)(p:X->Bool)(f:X->AV)(M1:X->List (Option AV))(hA:∀x∈xs,As C k fr m σ t (enc x) (M1 x) σ)(hT:∀x∈xs,Tr C k fr (M1 x) σ c (p x) σ)(hE:∀x∈xs,p x=true->Ev C k fr (M1 x) σ elt (f x) σ)(hw:∀x,Weak (M1 x) m)(hf:autoParam (∀x,plain (f x)=true) ap0._auto_1)(hx:autoParam (ai.items=xs.map enc) ap0._auto_1)(hl:autoParam (gens[d+1]?=none) ap0._auto_1)(hO:autoParam (ai.Ok σ) ap3._auto_1)(hp:autoParam (ai.plain=true) ap0._auto_1)(ht:autoParam (ai.pairs=true->∃elts n p,t=.Tuple elts n p) ap4._auto_1)(hz:autoParam (xs.length<=2 ^ 20) ap2._auto_1):
    CompC C k fr elt gens scope pos d ai 0 m σ [] m σ ((xs.filter p).map f):=by
  have h:=Ibn (C:=C) (k:=k) (fr:=fr) (elt:=elt) (scope:=scope) (pos:=pos) (acc:=[]) (m:=m) hg hO hp ht xs enc (fun x=>if p x=true then [f x] else []) hx (fun x acc hx' ha=>⟨M1 x,M1 x,p x,hA x hx',Tests.one (hT x hx'),?_,hw x⟩) (by rw[hl];exact nofun) (by
    rw[qey,Ab];have:=Bu p xs;rw[CW,Ay];lia)
  . rw[qey] at h;exact h
  . cases hpx:p x with
    | true=>
      refine .inl ⟨rfl,?_⟩;rw[if_pos rfl];refine Ibk hl (hE x hx' hpx) (hf x) ?_;lia
    | false=>exact .inr ⟨rfl,rfl,by rfl⟩
theorem CompC.map (hg:gens[d]?=some ⟨t,iter,[],0⟩)(xs:List X)(enc:X->AV)(f:X->AV)(M1:X->List (Option AV))(hA:∀x∈xs,As C k fr m σ t (enc x) (M1 x) σ)(hE:∀x∈xs,Ev C k fr (M1 x) σ elt (f x) σ)(hw:∀x,Weak (M1 x) m)(hf:autoParam (∀x,plain (f x)=true) ap0._auto_1)(hx:autoParam (ai.items=xs.map enc) ap0._auto_1)(hl:autoParam (gens[d+1]?=none) ap0._auto_1)(hO:autoParam (ai.Ok σ) ap3._auto_1)(hp:autoParam (ai.plain=true) ap0._auto_1)(ht:autoParam (ai.pairs=true->∃elts n p,t=.Tuple elts n p) ap4._auto_1)(hz:autoParam (xs.length<=2 ^ 20) ap2._auto_1):
    CompC C k fr elt gens scope pos d ai 0 m σ [] m σ (xs.map f):=by
  have e:∀(xs:List X),xs.flatMap (fun x=>[f x])=xs.map f:=fun xs=>by induction xs with
    | nil=>rfl
    | cons x xs ih=>rw[B7,ih];rfl
  have h:=Ibn (C:=C) (k:=k) (fr:=fr) (elt:=elt) (scope:=scope) (pos:=pos) (acc:=[]) (m:=m) hg hO hp ht xs enc (fun x=>[f x]) hx (fun x acc hx' ha=>⟨M1 x,M1 x,true,hA x hx',Tests.nil,.inl ⟨rfl,Ibk hl (hE x hx') (hf x) (by lia)⟩,hw x⟩) (by rw[hl];exact nofun) (by
    rw[e,Ab,CW,Ay];lia)
  . rw[e] at h;exact h
end
theorem Ibj {op:Gu}{b:Bool}(h:Tr C k fr m σ e b z'):Trs C k fr m σ op [e] b z':=by
  cases op with
  | And=>have q:=Idv h (fun _=>Trs.nil) (fun _=>rfl);rwa[show (b&&(Gu.And==Gu.And))=b from by cases b <;> rfl] at q
  | Or=>have q:=Ibe h (fun _=>Trs.nil) (fun _=>rfl);rwa[show (b||(Gu.Or==Gu.And))=b from by cases b <;> rfl] at q
theorem Ibc (hx:C.nm[i]?=some (x,.cell))(he:Ev C k fr m σ (.ListComp elt gens scope pos) v z')(hp:plain v=true):
    Ex C k fr m σ (.Assign [.Name x px] (.ListComp elt gens scope pos) p) .next (m.set i (some v)) z':=fun A env g s rm R F Q E hQ=>by
  refine qa5 (F.names i x _ hx) ?_;intro k' h3 h4;have hkk:(k'==Ax.local)=false:=by cases k' <;> first | rfl | (exact absurd h4 (by decide))
  have hb:FJ [.Name x px] (.ListComp elt gens scope pos) p.line env=pure false:=by
    show swapsWith (.ListComp elt gens scope pos) (some (.Name x px)) p.line env=pure false;show (pure (env.blockKind==.function&&env.kindOf x==some .local&&px.line==pos.line && !(scope.names.any fun (n,k)=>n==x&&(k==.local||k==.cell))):Sem Bool)=pure false;have:(env.kindOf x==some Ax.local)=false:=by rw[h3];exact hkk
    rw[this,CP,Cv,Cv]
  refine CE (he A env g s rm R F _ _ fun v' g1 s1a R1 e1a rv=>?_) hb (by rfl);show wpAny _ A (GJ v' ((CR [.Name x px] env).map (·.2))) _ _ _;rw[show (CR [.Name x px] env).map (·.2)=[PySem.assign (.Name x px) env] from rfl];exact Idc (p:=px) hx (av:=v) hp A env g1 s1a v' rm R1 (F.up e1a) rv _ _ fun g2 s2 R2 e2a F2=>hQ _ g2 s2 R2 (e1a.toX.trans e2a) F2 rfl
noncomputable def pickL {α:Type} (l:List α) (lo hi st:Option Int):List α:=
  (EH (B6 lo hi st l.length).1 (B6 lo hi st l.length).2.1 (B6 lo hi st l.length).2.2).filterMap fun i=>l[i]?
theorem qi9 {f:α->AV}(l:List α)(lo hi st:Option Int):qbq (l.map f) lo hi st=(pickL l lo hi st).map f:=by
  unfold qbq pickL;rw[Ab,List.map_filterMap];congr 1
  funext i
  rw[Aj]
theorem qhb (l:List α)(a:Nat):∀n:Nat,((Ac n).map fun k=>a+k).filterMap (fun i=>l[i]?)=(l.drop a).take n
  | 0=>by rfl
  | n+1=>by
    rw[C0,A0,List.filterMap_append,qhb l a n,List.take_add_one,Ea];cases e:l[a+n]? <;> simp[e]
theorem qdu (a b:Nat):EH (a:Int) (b:Int) 1=(Ac (b - a)).map fun k=>a+k:=by
  unfold EH;have:(if (1:Int) > 0 then if (a:Int)<(b:Int) then ((b:Int) - a+1 - 1) / 1 else 0 else if (a:Int) > b then ((a:Int) - b - 1 - 1) / (-1) else 0).toNat=b - a:=by
    rw[if_pos (by decide)];split <;> simp_all
  rw[show (GI (fun (k:Nat)=>((a:Int)+1*(k:Int)).toNat) (Ac _))=_ from rfl];show GI _ (Ac (Int.toNat (if (1:Int) > 0 then _ else _)))=_;rw[this];refine AN fun k _=>?_
  lia
theorem qe6 (l:List α)(j:Nat):pickL l (some (j:Int)) none none=l.drop j:=by
  unfold pickL;have e:B6 (some (j:Int)) none none l.length=(((min j l.length:Nat):Int),(l.length:Int),1):=by
    simp[B6];grind
  rw[e];show (EH ((min j l.length:Nat):Int) ((l.length:Nat):Int) 1).filterMap _=_;rw[qdu,qhb];by_cases h:j<=l.length
  . rw[DZ h,Dw (by simp)]
  . rw[EC (by lia),Nat.sub_self,List.take_zero,List.drop_eq_nil_of_le (by lia)]
theorem qfr (l:List α)(j:Nat):pickL l none (some (j:Int)) none=l.take j:=by
  unfold pickL;have e:B6 none (some (j:Int)) none l.length=(((0:Nat):Int),((min j l.length:Nat):Int),1):=by
    simp[B6];grind
  rw[e];show (EH ((0:Nat):Int) ((min j l.length:Nat):Int) 1).filterMap _=_;rw[qdu,qhb];rw[List.drop_zero,Nat.sub_zero];by_cases h:j<=l.length
  . rw[DZ h]
  . rw[EC (by lia),FY,Dw (by lia)]
theorem qp4 {lo hi st:Option Int}:qbq l lo hi st=pickL l lo hi st:=rfl
theorem qts {x:Int}(hx:x=(j:Nat))(hj:j<n):CN x n=some j:=by
  subst hx;unfold CN;rw[if_neg (Gg.mpr (Bh j))];exact if_pos (AJ.mpr ⟨decide_eq_true (Bh j),decide_eq_true (CF.mpr hj)⟩)
theorem qtr {x:Int}(hx:x=(j:Int) - (n:Int))(hj:j<n):CN x n=some j:=by
  subst hx;unfold CN;simp;rw[if_pos (by lia)];simp;assumption
theorem qbc {x:Int}{l:List α}{v:α}(hx:x=(j:Nat))(hv:l[j]?=some v):∃j,CN x l.length=some j/\l[j]?=some v:=⟨j,qts hx (Ap.mp hv).1,hv⟩
theorem qql {x:Int}{l:List α}{v:α}(hv:l[j]?=some v)(hx:x=(j:Int) - (l.length:Int)):∃j,CN x l.length=some j/\l[j]?=some v:=⟨j,qtr hx (Ap.mp hv).1,hv⟩
end
section
section
mutual
theorem qdj (hb:∀a n,g a=.loc n->n<b):(v:AV)->∀{u:Value},plain v=true->RV W g h v u->qbd b v=true
  | .loc n,u,_,r=>by
    refine qa5 (r) ?_;intro a _ ha;show decide (n<b)=true;exact decide_eq_true (hb a n ha)
  | .tup l,u,hp,r=>by
    refine qa2 (r) ?_;(try clear r);intro a vs n _ _ _ r;exact qb7 hb l hp r
  | .lst l,u,hp,r=>by
    refine qa2 (r) ?_;(try clear r);intro a vs n _ _ _ r;exact qb7 hb l hp r
  | .bound f s,u,hp,r=>by
    refine qb3 (r) ?_;(try clear r);intro a sv _ _ _ r;exact qdj hb s hp r
  | .clo ..,_,hp,_=>by cases (hp:false=true)
  | .none,_,_,_=>rfl
  | .bool _,_,_,_=>rfl
  | .int _,_,_,_=>rfl
  | .str _,_,_,_=>rfl
  | .glob _,_,_,_=>rfl
  | .any,_,_,_=>rfl
termination_by structural x=>x
theorem qb7 (hb:∀a n,g a=.loc n->n<b):(l:List AV)->∀{us:List Value},plains l=true->RVs W g h l us->qad b l=true
  | [],_,_,_=>rfl
  | a::l,us,hp,r=>by
    refine qa1 (r) ?_;intro v r' _ h1 h2;have hp':(plain a&&plains l)=true:=hp;rw[AG] at hp';show (qbd b a&&qad b l)=true;rw[qdj hb a hp'.1 h1,qb7 hb l hp'.2 h2];rfl
termination_by structural x=>x
end
theorem Rep.cl (R:Rep W fr g σ s):Cl σ:=fun ao hao=>by
  obtain ⟨n,hn⟩:=List.mem_iff_getElem?.mp hao;refine qa5 (R.locs n ao hn) ?_;intro a ha ro;have hp:=R.pl n ao hn;have hb:=R.bnd;cases ao with
  | lst l=>refine qcr (ro) ?_;intro vs k _ r;exact qb7 (fun a n q=>hb a n (.inl q)) l hp r
  | dstr ks l=>refine qaj (ro) ?_;intro vs _ _ r;exact qb7 (fun a n q=>hb a n (.inl q)) l hp r
  | dint ks l=>refine qaj (ro) ?_;intro vs _ _ r;exact qb7 (fun a n q=>hb a n (.inl q)) l hp r
  | fn0=>rfl
  | elem as l=>refine qah (ro) ?_;intro fd d mh vs _ _ _ r _;exact qb7 (fun a n q=>hb a n (.inl q)) l hp r
  | iter l=>refine qcq (ro) ?_;intro la i vs k _ _ _ r;exact qb7 (fun a n q=>hb a n (.inl q)) l hp r
  | iterDone=>rfl
end
noncomputable def NoK:Value->Prop:=fun _=>True
def qp0 (W:Wd) (cd:Value):Prop:=∃c P,∀Y nm,LamIn ⟨W,Y,nm,cd⟩ c P
def FnB (W:Wd) (K:Value->Prop) (nm:List (Str×Ax)) (body:List Stmt) (a:Addr) (args:List AV) (kn:List Str) (kv:List AV) (m1:List (Option AV)):Prop:=
  ∃fd xs vs,(∀Y,qqt ⟨W,Y,nm,fd.code⟩ a fd body)/\K fd.code/\qcu W fd args kn kv xs vs/\Binds nm xs vs (AR nm.length none) m1
def FnX (W:Wd) (nm:List (Str×Ax)) (body:List Stmt) (a:Addr) (args:List AV) (kn:List Str) (kv:List AV) (m1:Nat->List (Option AV)):Prop:=
  ∃fd xs vs,(∀Y,qqt ⟨W,Y,nm,fd.code⟩ a fd body)/\BindX W fd args kn kv xs vs/\∀n,Binds nm xs (vs++[.loc n]) (AR nm.length none) (m1 n)
section
variable {K:Value->Prop}
theorem FnB.calls (B:FnB W K nm body a args kn kv m1)(kp:Nat)(hbody:∀cd env,K cd->ExsF ⟨W,fun n=>Y n\/σ.length<=n,nm,cd⟩ k env fr m1 σ body fl m' z'')(hkp:σ.length<=kp)(hkp2:kp<=z''.length)(hvs:Cl σ->(plains args=true->qad σ.length args=true)->Cl z''->(plain (qer fl)=true->qbd z''.length (qer fl)=true)->v=frz kp z'' (qer fl)/\z'=(z''.take kp).map (qlx kp z'')):Calls W Y (k+1) fr σ (.glob (.ref a)) args kn kv v z':=fun A g s vf us ks rm R rf ru rk Q E hQ=>by
  refine qa2 (B) ?_;(try clear B);intro fd xs vs Fn hK hb B;have Fn:=Fn (fun n=>Y n\/σ.length<=n);have hbd:=fun env=>hbody fd.code env hK
  clear hbody;have clz:Cl σ:=R.cl;have cla:plains args=true->qad σ.length args=true:=fun hp=>qb7 (fun a n q=>R.bnd a n (.inl q)) args hp ru
  obtain rfl:vf=.ref a:=rf;refine qa5 (Fn.get) ?_;intro o ho hd;refine qah (Fn.code) ?_;intro c oc cvs tq h1 h2 h3 h4 h5;refine qa5 (hb fr g σ s us ks R ru rk) ?_;intro ws hbt hws;refine EJ (DE rm.dep (R.base a o ho Fn.nt) hd Fn.co Fn.gen Fn.body ⟨c,oc,cvs,tq,h1,R.base c oc h2 h3,h4,h5⟩ (hbt _ _ _ _ ?_));rw[Fn.glob,Fn.clo,Fn.blt];refine qcs (C:=⟨W,fun n=>Y n\/σ.length<=n,nm,fd.code⟩) (m0:=AR nm.length none) Fn.nm Fn.nd Fn.kind Fn.lk (by exact Fn.cd) (fun o h=>by cases h) R (fun i x kd hi=>⟨fun hk=>by subst hk;exact absurd hi (Fn.nofree i x),fun _ av q=>by
    rw[Bw] at q;split at q <;> cases q⟩) (.inr fun i av q=>by rw[Bw] at q;split at q <;> cases q) B hws (by simp) fun env g1 s1a R1 e1a F1 hsc hL hcl hown hfr _ hRc=>?_
  refine ⟨R1.nolim,Ge ?_⟩;refine hbd env _ g1 s1a rm.deeper (hRc rfl) F1 _ _ fun f' g2 s2 R2 e2a F2 hf=>?_
  have hfresh:∀a o,s.heap.get? a=some o->FX nm env a->noX a:=fun a o ho ha=>by
    rcases ha with rfl | ⟨i,x,hi,hcx⟩
    . rw[hL] at ho;cases ho
    . rw[hown i x a hi hcx] at ho;cases ho
  have e12:Evo W noX (fun n=>Y n\/σ.length<=n) g s.heap g2 s2.heap:=(e1a.no.toX.trans e2a).weak R.low hfresh fun _ q=>q
  have R3:=(R2.fewer (fr':=fr) fun e he=>Az _ he).exitF kp hkp2;have e13:Evo W noX Y g s.heap (gx kp g2 s2.heap) s2.heap:=(e12.exit (b:=σ.length) (fun a n q=>R.bnd a n q) hkp).wkB R fun n hn q=>q.resolve_right (by simp_all)
  refine AD ?_ (hvs clz cla R2.cl (fun hp=>qdj (fun a n q=>R2.bnd a n (.inl q)) _ hp (qi5 hf)));intro hv hs;subst hv hs;exact hQ (quj f') _ s2 R3 e13 (RV.exit R2 _ _ (qi5 hf))
theorem Cl.app (h:Cl σ):((σ++τ).take σ.length).map (qlx σ.length (σ++τ))=σ:=(qs1 h).symm
theorem Cl.all (h:Cl σ):(σ.take σ.length).map (qlx σ.length σ)=σ:=by
  have:=h.app (τ:=[]);rwa[Bf] at this
theorem Iax (B:FnB W K nm body a args kn kv m1)(hbody:∀cd env,K cd->ExsF ⟨W,fun n=>Y n\/σ.length<=n,nm,cd⟩ k env fr m1 σ body fl m' σ)(hv:v=qer fl)(hp:plain (qer fl)=true):Calls W Y (k+1) fr σ (.glob (.ref a)) args kn kv v σ:=
  B.calls σ.length hbody (Ak _) (Ak _) fun c1 _ _ c2=>⟨by rw[qc2 _ (c2 hp)];exact hv,c1.all.symm⟩
theorem Icg (B:FnB W K nm body a args kn kv m1)(hbody:∀cd env,K cd->ExsF ⟨W,fun n=>Y n\/σ.length<=n,nm,cd⟩ k env fr m1 σ body fl m' (σ++τ))(hv:Cl σ->(plains args=true->qad σ.length args=true)->v=frz σ.length (σ++τ) (qer fl)):Calls W Y (k+1) fr σ (.glob (.ref a)) args kn kv v σ:=
  B.calls σ.length hbody (Ak _) (by simp) fun c1 c2 _ _=>⟨hv c1 c2,c1.app.symm⟩
theorem Ibl (B:FnB W K nm body a args kn kv m1)(hbody:∀cd env,K cd->ExsF ⟨W,fun n=>Y n\/σ.length<=n,nm,cd⟩ k env fr m1 σ body fl m' z'')(hl:σ.length<=z''.length)(hv:v=qer fl)(hp:plain (qer fl)=true):Calls W Y (k+1) fr σ (.glob (.ref a)) args kn kv v z'':=
  B.calls z''.length hbody hl (Ak _) fun _ _ c1 c2=>⟨by rw[qc2 _ (c2 hp)];exact hv,c1.all.symm⟩
theorem qk9 (hl:σ.length=b)(h:∀ao∈σ,qdk b ao=true):((σ++τ).take b).map (qlx b (σ++τ))=σ:=by
  subst hl;exact Cl.app (σ:=σ) h
theorem Ib7 (B:FnB W K nm body a args kn kv m1)(hbody:∀cd env,K cd->ExsF ⟨W,fun n=>Y n\/σ.length<=n,nm,cd⟩ k env fr m1 σ body fl m' (z2++τ))(hl:z2.length=σ.length)(hc:Cl σ->(plains args=true->qad σ.length args=true)->v=frz σ.length (z2++τ) (qer fl)/\∀ao∈z2,qdk σ.length ao=true):Calls W Y (k+1) fr σ (.glob (.ref a)) args kn kv v z2:=
  B.calls σ.length hbody (Ak _) (by simp[hl]) fun c1 c2 _ _=>⟨(hc c1 c2).1,(qk9 hl (hc c1 c2).2).symm⟩
theorem FnB.callsR {X:String}{P:List Value->Prop}{mk:Bool}(B:FnB W K nm body a args kn kv m1)(hbody:∀cd env,K cd->ExsR ⟨W,fun n=>Y n\/σ.length<=n,nm,cd⟩ k (env::fr) m1 σ body mk X P m' z'):CallsR W Y (k+1) fr σ (.glob (.ref a)) args kn kv false X P z':=by
  refine qa2 (B) ?_;(try clear B);intro fd xs vs Fn hK hb B;exact Id6 (Fn (fun n=>Y n\/σ.length<=n)) hb B (fun env=>hbody fd.code env hK) fun n hn q=>q.resolve_right (by simp_all)
theorem FnX.calls {m1':Nat->List (Option AV)}(B:FnX W nm body a args kn kv m1')(hbody:∀cd env,Exs ⟨W,fun n=>Y n\/σ.length<=n,nm,cd⟩ k (env::fr) (m1' σ.length) (σ++[.dstr kn kv]) body fl m' z'')(hl:σ.length<=z''.length)(hv:v=qer fl)(hp:plain (qer fl)=true):Calls W Y (k+1) fr σ (.glob (.ref a)) args kn kv v z'':=fun A g s vf us ks rm R rf ru rk Q E hQ=>by
  refine qar (B) ?_;(try clear B);intro fd xs vs Fn hb B;have Fn:=Fn (fun n=>Y n\/σ.length<=n);have B:=B σ.length;have hbd:=hbody fd.code;clear hbody;obtain rfl:vf=.ref a:=rf;refine qa5 (Fn.get) ?_;intro o ho hd;refine qah (Fn.code) ?_;intro c oc cvs tq h1 h2 h3 h4 h5;refine EJ (DE rm.dep (R.base a o ho Fn.nt) hd Fn.co Fn.gen Fn.body ⟨c,oc,cvs,tq,h1,R.base c oc h2 h3,h4,h5⟩ (hb _ fr g σ s us ks R ru rk _ _ fun ws g0 s0 R0 e0 hws=>?_));rw[Fn.glob,Fn.clo,Fn.blt];refine qcs (C:=⟨W,fun n=>Y n\/σ.length<=n,nm,fd.code⟩) (m0:=AR nm.length none) Fn.nm Fn.nd Fn.kind Fn.lk (by exact Fn.cd) (fun o h=>by cases h) R0 (fun i x kd hi=>⟨fun hk=>by subst hk;exact absurd hi (Fn.nofree i x),fun _ av q=>by
    rw[Bw] at q;split at q <;> cases q⟩) (.inr fun i av q=>by rw[Bw] at q;split at q <;> cases q) B hws (by simp) fun env g1 s1a R1 e1a F1 hsc hL hcl hown hfr _ hRc=>?_
  refine ⟨R1.nolim,Ge ?_⟩;refine hbd env _ env g1 s1a rm.deeper (hRc rfl) F1 _ _ fun f' g2 s2 R2 e2a F2 hf=>?_
  have hfresh:∀a o,s0.heap.get? a=some o->FX nm env a->noX a:=fun a o ho ha=>by
    rcases ha with rfl | ⟨i,x,hi,hcx⟩
    . rw[hL] at ho;cases ho
    . rw[hown i x a hi hcx] at ho;cases ho
  have e12:Evo W noX (fun n=>Y n\/σ.length<=n) g s.heap g2 s2.heap:=e0.no.trans ((e1a.no.toX.trans e2a).weak R0.low hfresh fun _ q=>q);have R3:=(R2.fewer (fr':=fr) fun e he=>Az _ he).exitF z''.length (Ak _);have e13:Evo W noX Y g s.heap (gx z''.length g2 s2.heap) s2.heap:=(e12.exit (b:=σ.length) (fun a n q=>R.bnd a n q) hl).wkB R fun n hn q=>q.resolve_right (by simp_all)
  have cv:=qdj (fun a n q=>R2.bnd a n (.inl q)) _ hp (qi5 hf);rw[R2.cl.all] at R3;refine hQ (quj f') _ s2 R3 e13 ?_;have r3:=RV.exit (k:=z''.length) R2 _ _ (qi5 hf);rw[qc2 _ cv] at r3;rw[hv];exact r3
theorem Icj {l:Lam}{caps:List AV}{m0:List (Option AV)}(I:CloIn l ns caps m0)(hb:∀(fd:BS),fd.params=l.params->fd.defaults=.none->fd.kwdefaults=.none->∀us,us.length=args.length->Da fd ⟨us,[]⟩=pure (xs.zip us))(B:Binds l.scope.names xs args m0 m1)(hbody:∀cd env,Ev ⟨W,fun n=>Y n\/σ.length<=n,l.scope.names,cd⟩ k (env::fr) m1 σ l.body v z'')(hl:σ.length<=z''.length)(hp:plain v=true):
    Calls W Y (k+1) fr σ (.clo l ns caps) args [] [] v z'':=fun A g s vf us ks rm R rf ru rk Q E hQ=>by
  refine qe8 (rf) ?_;intro a fd cvs eq_21_3 hg hcl hcr hcc;subst eq_21_3;obtain rfl:ks=[]:=rk;refine qe7 (hcl.code) ?_;intro cc oc vs' q t hcd hco1 hco2 hco3 hco4 hco5 hco6;have hlen:us.length=args.length:=ru.length;refine EJ (qq5 rm.dep hcl.get rfl (by rw[hcl.scope];exact I.co) (by rw[hcl.scope];exact I.gen) hcl.body ⟨cc,oc,vs',t,hcd,hco3,hco5,hco6⟩ ?_);show wpAny _ _ (Da fd ⟨us,[]⟩) _ _ _;rw[hb fd hcl.params hcl.dflt hcl.kwd us hlen];refine Ag ?_;rw[hcl.scope,hcl.glob,hcl.blt];refine qcs (C:=⟨W,fun n=>Y n\/σ.length<=n,l.scope.names,fd.code⟩) (m0:=m0) rfl I.nd I.kind (qca I.nd) rfl (fun o h=>by cases h) R (fun i x kd hi=>⟨fun hk=>?_,fun hk=>I.rest i x kd hi hk⟩) I.pl B ru I.len fun env g1 s1a R1 e1a F1 hsc hL hcells hown hfr _ hRc=>?_
  . subst hk;refine qa5 (I.free i x hi) ?_;intro j h1 h2;refine qap (hcc j x h1) ?_;intro c u h3 h4 h5 h6 h7;refine ⟨c,some u,h3,h7,h6,.inr h4,fun av q=>⟨u,rfl,?_⟩⟩;refine qa5 (hcr.getA (h2 av q)) ?_;intro u' hu' ru';rw[h5] at hu';obtain rfl:=Sj hu';exact ru'
  . refine ⟨R1.nolim,kla_codeExpr ?_⟩;have R1':=hRc rfl;refine hbody fd.code env _ env g1 s1a rm.deeper R1' F1 _ _ fun v' g2 s2 R2 e2a rv=>?_
    have hfresh:∀a o,s.heap.get? a=some o->FX l.scope.names env a->noX a:=fun a o ho ha=>by
      rcases ha with rfl | ⟨i,x,hi,hcx⟩
      . rw[hL] at ho;cases ho
      . rw[hown i x a hi hcx] at ho;cases ho
    have e12:Evo W noX (fun n=>Y n\/σ.length<=n) g s.heap g2 s2.heap:=e1a.no.trans e2a;have R3:=(R2.fewer (fr':=fr) fun e he=>Az _ he).exitF z''.length (Ak _);have e13:Evo W noX Y g s.heap (gx z''.length g2 s2.heap) s2.heap:=(e12.exit (b:=σ.length) (fun a n q=>R.bnd a n q) hl).wkB R fun n hn q=>q.resolve_right (by simp_all)
    have cv:=qdj (fun a n q=>R2.bnd a n (.inl q)) _ hp rv;rw[R2.cl.all] at R3;refine hQ v' _ s2 R3 e13 ?_;have r3:=RV.exit (k:=z''.length) R2 _ _ rv;rw[qc2 _ cv] at r3;exact r3
end
end
section
noncomputable def nth (l:List Stmt) (i:Nat):Stmt:=l.getD i (.Break ⟨0,0,0,0⟩)
noncomputable def qie (l:List Expr) (i:Nat):Expr:=l.getD i (.Constant .none 0 ⟨0,0,0,0⟩)
noncomputable def stS:Stmt->(List Stmt×List Stmt)×Expr×Expr×Expr
  | .If t b e _=>((b,e),t,qie [] 0,qie [] 0)
  | .While t b e _=>((b,e),t,qie [] 0,qie [] 0)
  | .For t e b l _=>((b,l),qie [] 0,t,e)
  | .Try b _ _ _ _=>((b,[]),qie [] 0,qie [] 0,qie [] 0)
  | .Assign ts e _=>(([],[]),qie [] 0,qie ts 0,e)
  | .Return (some e) _=>(([],[]),qie [] 0,qie [] 0,e)
  | .Expr e _=>(([],[]),qie [] 0,qie [] 0,e)
  | _=>(([],[]),qie [] 0,qie [] 0,qie [] 0)
noncomputable def qbp (s:Stmt):List Stmt:=(stS s).1.1
noncomputable def qo8 (s:Stmt):List Stmt:=(stS s).1.2
noncomputable def qjd (s:Stmt):Expr:=(stS s).2.1
noncomputable def qbl (s:Stmt):Expr:=(stS s).2.2.1
noncomputable def qkf (s:Stmt):Expr:=(stS s).2.2.2
theorem WhileC.pre (h:WhileC C k fr test body orelse m σ fl m' z')(w:Weak m2 m):WhileC C k fr test body orelse m2 σ fl m' z':=fun A env g s rm R F Rr hR=>h A env g s rm R (F.weak w) Rr hR
theorem WhileC.post (h:WhileC C k fr test body orelse m σ fl m2 z')(w:Weak m2 m'):WhileC C k fr test body orelse m σ fl m' z':=fun A env g s rm R F Rr hR=>h A env g s rm R F Rr fun f' g' s' R' e' F' hf=>hR f' g' s' R' e' (F'.weak w) hf
theorem Iae (h:Exs C k fr m σ sts fl m2 z'):Exs C k fr m σ sts fl [] z':=h.post fun i av q=>by simp at q
theorem Idn (h:ExsF C k env fr m σ sts fl m2 z'):ExsF C k env fr m σ sts fl [] z':=fun A g s rm R F Q E hQ=>h A g s rm R F Q E fun f' g' s' R' e' F' hf=>hQ f' g' s' R' e' (F'.weak fun i av q=>by simp at q) hf
theorem ExsR.post {mk:Bool}{X:String}{P:List Value->Prop}(h:ExsR C k fr m σ sts mk X P m2 z')(w:Weak m2 m'):ExsR C k fr m σ sts mk X P m' z':=fun A env outer g s hfr rm R F Q E hE=>h A env outer g s hfr rm R F Q E fun e g' h0a us s' hp e1a F1 y=>hE e g' h0a us s' hp e1a (F1.weak w) y
def KeyFn {S:Type} (W:Wd) (d:Nat) (Yk:Nat->Prop) (sg:S->List AObj) (P:S->Prop) (key v:AV) (n:Int):Prop:=
  ∀s,P s->∃s',P s'/\∀(k:Nat) (fr:List Env) (Y:Nat->Prop),(∀n,Yk n->Y n)->Calls W Y (k+d) fr (sg s) key [v] [] [] (.int n) (sg s')
structure qou {S:Type} (W:Wd) (d:Nat) (Yk:Nat->Prop) (sg:S->List AObj) (P:S->Prop) (key a:AV) (l:List AV) (κ:Nat->Int):Prop where
  kept:Kept W key
  nn:isNone key=some false
  lv:∀s,P s->Lv (sg s) a l
  at_:∀j v,l[j]?=some v->KeyFn W d Yk sg P key v (κ j)
theorem Ibs {n:Int}(h:∀k fr Y,Calls W Y (k+d) fr σ key [v] [] [] (.int n) σ):KeyFn W d (fun _=>False) (fun _:Unit=>σ) (fun _=>True) key v n:=fun s hs=>⟨s,hs,fun k fr Y _=>h k fr Y⟩
theorem FnB.kept {K:Value->Prop}(B:FnB W K nm body a args kn kv m1):Kept W (.glob (.ref a)):=by
  refine qbw (B) ?_;intro fd xs vs Fn _;exact Ict (Fn noY)
theorem FnX.kept {m1:Nat->List (Option AV)}(B:FnX W nm body a args kn kv m1):Kept W (.glob (.ref a)):=by
  refine qbw (B) ?_;intro fd xs vs Fn _;exact Ict (Fn noY)
section
variable {a:AV}
theorem Ibr (hL:Lv σ a l):MethOk W fr σ a "insert" (.glob (.builtin "list.insert")) [a]:=MethOk.list hL PySem.F.slot_list_insert
theorem Meth.append (hL:Lv σ a l):MethOk W fr σ a "append" (.glob (.builtin "list.append")) [a]:=MethOk.list hL PySem.F.slot_list_append
theorem Meth.join:MethOk W fr σ (.str x) "join" (.glob (.builtin "str.join")) [.str x]:=MethOk.str PySem.F.slot_str_join (by first | rfl | decide +kernel | kernel_rfl)
theorem Ide:MethOk W fr σ (.str x) "split" (.glob (.builtin "str.split")) [.str x]:=MethOk.str PySem.F.slot_str_split (by first | rfl | decide +kernel | kernel_rfl)
end
theorem qc8 (h:∀v∈l,qbd b v=true):qad b l=true:=by
  induction l with
  | nil=>rfl
  | cons a l ih=>
    show (qbd b a&&qad b l)=true;rw[h a Am,ih fun v hv=>h v (Az _ hv)];rfl
theorem qcx (h:qad b l=true):∀v∈l,qbd b v=true:=by
  induction l with
  | nil=>intro v hv;cases hv
  | cons a l ih=>
    have h':(qbd b a&&qad b l)=true:=h;rw[AG] at h';intro v hv;rcases AS.mp hv with rfl | hv
    . exact h'.1
    . exact ih h'.2 v hv
theorem qt5 {lo:Nat}:AV.int (((lo:Int)+(hi:Int)).fdiv 2)=.int (((lo+hi) / 2:Nat):Int):=by
  rw[DO _ (by simp +arith)];congr 1
end
section
section
theorem Tv.int {i:Int}:Tv W Y k fr σ (.int i) (i != 0):=fun A g s va rm R ra Q E hQ=>by
  obtain ⟨t,rfl⟩:=ra;exact truthy_int (hQ g s R Evo.refl)
end
theorem qop {v c:Int}(hv:0<=v)(h0:0<=c)(h1:c<64):DC (v*64) c=v*64+c:=by
  rw[bitOr_and];have:AE (v*64) c=0:=by
    refine Aq (Ef hv) ?_;intro n eq_0_1;subst eq_0_1;refine Aq (Ef h0) ?_;intro m eq_1_1;subst eq_1_1;have e:AE ((n:Int)*64) (m:Int)=(((n*2 ^ 6) &&& m:Nat):Int):=by
      rw[bitAnd_pp (by simp +arith) (by assumption)];have:((n:Int)*64).toNat=n*2 ^ 6:=by lia
      rw[this];rfl
    rw[e];have:(n*2 ^ 6) &&& m=0:=by
      apply Nat.eq_of_testBit_eq;intro i;rw[Nat.testBit_and,Nat.testBit_mul_two_pow,FP];by_cases hi:6<=i
      . have:m.testBit i=false:=Du (Ah (by lia:m<2 ^ 6) (Cb (by decide) hi));rw[this,CP]
      . simp[hi]
    rw[this];rfl
  simp_all
noncomputable def qko:Int->Int->List Int->Option (Int×List Int)
  | val,b,rest=>if b / 64 % 2=0 then some (val,rest) else match rest with
    | []=>none
    | b'::r=>if 0<=val/\val<2 ^ 50 then qko (val*64+b' % 64) b' r else none
noncomputable def pv:List Int->Option (Int×List Int)
  | []=>none
  | b::r=>qko (b % 64) b r
noncomputable def qck (n w:Int):List Int:=(([5,4,3,2,1]:List Int).filter (fun k=>w==1||decide (64 ^ k.toNat<=n))).map (fun k=>(n.fdiv (64 ^ k.toNat)).fmod 64+64)++[n.fmod 64]
noncomputable def qmc (n w:Int):List Int:=match qck n w with
  | []=>[]
  | h::t=>(h+128)::t
theorem qgx {n w:Int}:(qck n w).length<=6/\∃h t,qck n w=h::t:=by
  constructor
  . unfold qck;rw[Ao,Ab];have:=Bu (fun k:Int=>w==1||decide (64 ^ k.toNat<=n)) [5,4,3,2,1];simp at this ⊢;omega
  . unfold qck;cases GI (fun k=>(n.fdiv (64 ^ k.toNat)).fmod 64+64) (List.filter (fun k:Int=>w==1||decide (64 ^ k.toNat<=n)) [5,4,3,2,1]) with
    | nil=>exact ⟨_,_,rfl⟩
    | cons a l=>exact ⟨_,_,rfl⟩
theorem qh8 {val b:Int}{rest:List Int}(h:b / 64 % 2=0):qko val b rest=some (val,rest):=by cases rest <;> simp[qko,h]
theorem qfl {val b b':Int}{rest:List Int}(h:b / 64 % 2≠0)(h2:0<=val/\val<2 ^ 50):qko val b (b'::rest)=qko (val*64+b' % 64) b' rest:=by
  rw[qko,if_neg h];simp only[h2,and_self,if_true]
noncomputable def qmd (n:Int):Nat->List Int
  | 0=>[n % 64]
  | k+1=>(n / 64 ^ (k+1) % 64+64)::qmd n k
theorem qqz (k:Nat):(0:Int)<64 ^ k:=Int.pow_pos (by decide)
theorem qul (y:Int):0<=y % 64/\y % 64<64:=⟨Int.emod_nonneg _ (by decide),Int.emod_lt_of_pos _ (by decide)⟩
theorem quv (y q:Int):(y % 64+q*64) / 64=q:=by rw[Int.add_mul_ediv_right _ _ (by decide),Int.ediv_eq_zero_of_lt (qul y).1 (qul y).2,Int.zero_add]
theorem quu (y q:Int):(y % 64+q*64) % 64=y % 64:=by rw[Int.add_mul_emod_self_right,Int.emod_emod]
theorem qvy (y:Int):(y % 64+64) / 64 % 2≠0:=by rw[show y % 64+64=y % 64+1*64 from rfl,quv];decide
theorem qvx (y:Int):y % 64 / 64 % 2=0:=by rw[Int.ediv_eq_zero_of_lt (qul y).1 (qul y).2];rfl
theorem qvw (y:Int):y / 64*64+y % 64 % 64=y:=by rw[Int.emod_emod,Int.ediv_mul_add_emod]
theorem qvv (y:Int):y / 64*64+(y % 64+64) % 64=y:=by rw[show y % 64+64=y % 64+1*64 from rfl,quu,Int.ediv_mul_add_emod]
theorem qi7 {n:Int}(h0:0<=n)(rest:List Int):∀(k:Nat) (val b:Int),b / 64 % 2≠0->val=n / 64 ^ (k+1)->n / 64<2 ^ 50->qko val b (qmd n k++rest)=some (n,rest)
  | 0,val,b,hb,hv,h1=>by
    obtain rfl:val=n / 64:=hv;rw[qmd,FV,CX,qfl hb ⟨EX h0 (by decide),h1⟩,qh8 (qvx n),qvw]
  | k+1,val,b,hb,hv,h1=>by
    have hp:=qqz (k+1);have hy0:0<=n / 64 ^ (k+1):=EX h0 (Gh hp);obtain rfl:val=n / 64 ^ (k+1) / 64:=by rw[hv,Gi,<- Int.ediv_ediv_of_nonneg (Gh hp)]
    rw[qmd,FV,qfl hb ⟨EX hy0 (by decide),Fa (Int.ediv_le_ediv (by decide) (Int.ediv_le_self _ h0)) h1⟩];exact qi7 h0 rest k _ _ (qvy _) (qvv _) h1
theorem qm2 {n w:Int}(h0:0<=n)(h1:n<64 ^ 6):∃k:Nat,k<=5/\qck n w=qmd n k/\n<64 ^ (k+1):=by
  have fd:∀k:Nat,(n.fdiv (64 ^ k)).fmod 64=n / 64 ^ k % 64:=fun k=>by rw[DO n (Gh (qqz k)),Ft _ (by decide)]
  have f0:n.fmod 64=n % 64:=Ft _ (by decide);have key:∀(p:Nat->Bool) (k:Nat),(∀j,1<=j->j<=5->p j=decide (j<=k))->k<=5->((([5,4,3,2,1]:List Nat).filter p).map fun k=>(n.fdiv (64 ^ k)).fmod 64+64)++[n.fmod 64]=qmd n k:=fun p k hp hk=>by
    rw[Bx (q:=fun j=>decide (j<=k)) fun j hj=>hp j (by revert j;decide) (by revert j;decide),f0];match k,hk with
    | 0,_=>rfl
    | 1,_=>simp only[qmd,<- fd];rfl
    | 2,_=>simp only[qmd,<- fd];rfl
    | 3,_=>simp only[qmd,<- fd];rfl
    | 4,_=>simp only[qmd,<- fd];rfl
    | 5,_=>simp only[qmd,<- fd];rfl
  have key2:∀k:Nat,k<=5->(∀j:Nat,1<=j->j<=5->(w==1||decide ((64:Int) ^ j<=n))=decide (j<=k))->qck n w=qmd n k:=fun k hk hp=>by
    unfold qck;rw[show ([5,4,3,2,1]:List Int)=GI (fun j:Nat=>(j:Int)) ([5,4,3,2,1]:List Nat) from rfl,ET,Bv];exact key (fun j=>w==1||decide ((64:Int) ^ j<=n)) k hp hk
  by_cases hw:(w==1)=true
  . exact ⟨5,Ak _,key2 5 (Ak _) fun j h1 h2=>by rw[hw,decide_eq_true h2];rfl,h1⟩
  . rw[Bool.not_eq_true] at hw;have mono:∀{i j:Nat},i<=j->(64:Int) ^ i<=64 ^ j:=fun h=>by exact_mod_cast Cb (by decide) h
    obtain ⟨k,hk,hb,hl⟩:∃k:Nat,k<=5/\n<64 ^ (k+1)/\∀j,1<=j->j<=k->(64:Int) ^ j<=n:=by
      have up:∀m:Nat,n<64 ^ (m+1)->∃k:Nat,k<=m/\n<64 ^ (k+1)/\∀j,1<=j->j<=k->(64:Int) ^ j<=n:=fun m=>by
        induction m with
        | zero=>exact fun h=>⟨0,Ak _,h,fun j h1 h2=>absurd (Af h1 h2) (by decide)⟩
        | succ m ih=>
          intro h;by_cases g:(64:Int) ^ (m+1)<=n
          . exact ⟨m+1,Ak _,h,fun j _ h2=>Int.le_trans (mono h2) g⟩
          . exact (ih (Int.not_le.mp g)).imp fun k q=>⟨C4 q.1,q.2⟩
      exact up 5 h1
    refine ⟨k,hk,key2 k hk fun j h1 h2=>?_,hb⟩;rw[hw,FK];by_cases g:j<=k
    . rw[decide_eq_true (hl j h1 g),decide_eq_true g]
    . rw[decide_eq_false g,decide_eq_false (Int.not_le.mpr (Int.lt_of_lt_of_le hb (mono (Nat.lt_of_not_le g))))]
theorem qvu (n:Int):(n % 64+128) / 64 % 2=0:=by rw[show n % 64+128=n % 64+2*64 from rfl,quv];rfl
theorem qvt (y:Int):(y % 64+64+128) / 64 % 2≠0:=by rw[Int.add_assoc,show y % 64+(64+128)=y % 64+3*64 from rfl,quv];decide
theorem qvs (y:Int)(h0:0<=y)(h:y<64):(y % 64+64+128) % 64=y:=by rw[Int.add_assoc,show y % 64+(64+128)=y % 64+3*64 from rfl,quu,Int.emod_eq_of_lt h0 h]
theorem qvr (y:Int)(h0:0<=y)(h:y<64):(y % 64+128) % 64=y:=by rw[show y % 64+128=y % 64+2*64 from rfl,quu,Int.emod_eq_of_lt h0 h]
theorem qsv {n w:Int}(h0:0<=n)(h1:n<64 ^ 6)(rest:List Int):pv (qmc n w++rest)=some (n,rest):=by
  obtain ⟨k,hk,he,hb⟩:=qm2 (w:=w) h0 h1;unfold qmc;rw[he];cases k with
  | zero=>
    show qko ((n % 64+128) % 64) (n % 64+128) ([]++rest)=_;rw[qh8 (qvu n),qvr n h0 hb];rfl
  | succ k=>
    have hp:=qqz (k+1);have hy0:0<=n / 64 ^ (k+1):=EX h0 (Gh hp);have hy1:n / 64 ^ (k+1)<64:=by
      apply Int.ediv_lt_of_lt_mul hp;rw[Int.mul_comm,<- Gi];exact hb
    exact qi7 h0 rest k _ _ (qvt _) (qvs _ hy0 hy1) (Ej (Int.ediv_lt_of_lt_mul (by decide) (show n<64 ^ 5*64 from h1)) (by decide))
end
section
def D1 (d:Nat) (v:AV):Prop:=isD v=true/\(toP v).depth<=d
theorem D1s {f:α->AV}:∀{l:List α},(∀x∈l,D1 d (f x))->ql1 (l.map f)=true/\EY (qlb (l.map f))<=d
  | [],_=>⟨rfl,AI _⟩
  | a::l,h=>by
    refine AD ?_ (D1s (l:=l) fun x hx=>h x (Az _ hx));intro h1 h2;refine AD ?_ (h a Am);intro h3 h4;constructor
    . show (isD (f a)&&ql1 (l.map f))=true;rw[h3,h1];rfl
    . show max (toP (f a)).depth (EY (qlb (l.map f)))<=d;lia
theorem D1.lst {f:α->AV}{l:List α}(h:∀x∈l,D1 d (f x)):D1 (d+1) (.lst (l.map f)):=by
  refine AD ?_ (D1s h);intro h1 h2;exact ⟨h1,by show EY (qlb (l.map f))+1<=d+1;simp_all⟩
theorem D1.tup {f:α->AV}{l:List α}(h:∀x∈l,D1 d (f x)):D1 (d+1) (.tup (l.map f)):=by
  refine AD ?_ (D1s h);intro h1 h2;exact ⟨h1,by show EY (qlb (l.map f))+1<=d+1;simp_all⟩
theorem D1.int {i:Int}:D1 d (.int i):=⟨rfl,AI _⟩
theorem D1.str (h:Bt x=true):D1 d (.str x):=⟨h,AI _⟩
theorem Ieb {a b:AV}(ha:D1 d a)(hb:D1 d b):D1 (d+1) (.tup [a,b]):=by
  have:=D1.tup (f:=id) (l:=[a,b]) (d:=d) fun x hx=>by
    simp at hx;rcases hx with rfl | rfl
    . exact ha
    . exact hb
  simpa using this
section
theorem Dv.of (h:D1 64 v):Dv σ v v:=⟨.inl rfl,h.1,h.2⟩
theorem Ie4 (hn:σ[n]?=some (.lst l))(h:D1 64 (.lst l)):Dv σ (.loc n) (.lst l):=⟨.inr ⟨n,l,rfl,hn,rfl⟩,h.1,h.2⟩
theorem Ids {l:List Int}:D1 64 (.lst (qa7 l)):=D1.lst (d:=63) fun _ _=>D1.int
theorem D1.nil:D1 64 (.lst []):=⟨rfl,by decide⟩
theorem Id4 {l:List Int}:Dv σ (.lst (qa7 l)) (.lst (qa7 l)):=Dv.of Ids
theorem Idi {l:List Int}(hn:σ[n]?=some (.lst (qa7 l))):Dv σ (.loc n) (.lst (qa7 l)):=Ie4 hn Ids
end
end
section
theorem qdr:AW (.type "function") "tag"=pure none:=by kernel_rfl
theorem qao:AW (.type "function") "attrib"=pure none:=by kernel_rfl
theorem qc0:AW (.type "function") "inner"=pure none:=by kernel_rfl
theorem qi1:AW (.type "function") "append"=pure none:=by kernel_rfl
theorem qds:AW (.type "function") "makeelement"=pure none:=by kernel_rfl
section
theorem Ibp (h:As C k fr m σ t v m' z')(e:z'=z''):As C k fr m σ t v m' z'':=e ▸ h
theorem Ibu {v':AV}(h:Ev C k fr m σ t v z')(e:z'=z'')(q:v=v'):Ev C k fr m σ t v' z'':=e ▸ q ▸ h
end
noncomputable def qil (l:List (Option Expr)):List Expr:=l.filterMap id
theorem Ibw {keys:List (Option Expr)}{vs:List Expr}{va:List AV}(kk:List Str)(he:EvP C k fr m σ (qil keys) vs (kk.map .str) va z')(hp:plains va=true)(hnd:kk.Nodup)(hkeys:autoParam (keys=(qil keys).map some) ap0._auto_1)(hlen:autoParam ((qil keys).length=vs.length) ap0._auto_1)(h0:autoParam ((qil keys).isEmpty=false) ap0._auto_1)(h15:autoParam (Nat.ble (qil keys).length 15=true) ap0._auto_1):
    Ev C k fr m σ (.Dict keys vs p) (.loc z'.length) (z'++[.dstr kk va]):=Ev.dstr he hp hnd hkeys hlen (fun h=>by rw[h] at h0;cases h0) (Cm h15)
theorem Icw {i:Int}:Calls W Y k fr σ (.glob (.builtin "int.bit_length")) [.int i] [] [] (.int ((E5 i:Nat):Int)) σ:=fun A g s vf us ks rm R rf ru rk Q E hQ=>by
  obtain rfl:vf=.builtin "int.bit_length":=rf;refine qa1 (ru) ?_;intro u q eq_0_2 ne_0_3 q';subst eq_0_2;obtain ⟨t,rfl⟩:=ne_0_3;obtain rfl:q=[]:=q';exact call_int_bit_length (hQ _ g _ (R.tok _) Evo.refl ⟨_,rfl⟩)
noncomputable def qr6 (names:List (Str×Ax)):Bool:=names.all fun p=>p.2 != .free
theorem qnb (h:qr6 names=true):∀(i:Nat) (x:Str),names[i]?≠some (x,.free):=fun i x q=>by
  have:=BZ.mp h _ (Aw q);cases this
theorem qh7 {x:AObj}(h:σ[n]?=some x):σ.set n x=σ:=by
  apply Fy;intro i;rw[FG];split
  . rename_i hi;subst hi;refine Aq (Ap.mp h) ?_;intro hn _;rw[if_pos hn,h]
  . rfl
theorem qbv {x y:AObj}(h:σ[n]?=some x):(σ.set n y)[n]?=some y:=by
  refine Aq (Ap.mp h) ?_;intro hn _;rw[FG,if_pos rfl,if_pos hn]
theorem qaw {m:Nat}{y:AObj}(h:n≠m):(σ.set n y)[m]?=σ[m]?:=by rw[FG,if_neg h]
theorem qbn {x:AObj}(h:σ[n]?=some x):n<σ.length:=(Ap.mp h).1
theorem qac {x:AObj}(h:σ[n]?=some x):(σ++τ)[n]?=some x:=by
  rw[BC (qbn h)];exact h
theorem qax (h:n=σ.length+j):(σ++τ)[n]?=τ[j]?:=by
  subst h;rw[CQ (by simp +arith)];congr 1;simp
theorem set_app {x:AObj}(h:n<σ.length):(σ++τ).set n x=σ.set n x++τ:=List.set_append_left _ _ h
theorem qda {x:AObj}(h:n=σ.length+j):(σ++τ).set n x=σ++τ.set j x:=by
  subst h;rw[List.set_append_right _ _ (by simp +arith)];congr 2;simp
end
section
noncomputable def qtq:Lam:=⟨{ posonlyargs:=[],args:=[],vararg:=none,kwonlyargs:=[],kw_defaults:=[],kwarg:=none,defaults:=[] },.Constant .none 0 ⟨0,0,0,0⟩,{ kind:=.function,names:=[],isGenerator:=false,isCoroutine:=false }⟩
noncomputable def exS (e:Expr):Lam×Expr×List Expr×List Expr×List Expr×List Expr:=match e with
  | .Lambda p b s _=>(⟨p,b,s⟩,e,[],[],[],[])
  | .ListComp x gs _ _=>(qtq,x,[],[],[],gs.map (·.iter))
  | .Call _ as kws _=>(qtq,e,kws.map (·.value),as,[],[])
  | .List es _=>(qtq,e,[],[],es,[])
  | .Tuple es _ _=>(qtq,e,[],[],es,[])
  | _=>(qtq,e,[],[],[],[])
noncomputable def qto (e:Expr):Lam:=(exS e).1
noncomputable def kwE (e:Expr) (i:Nat):Expr:=(exS e).2.2.1.getD i e
theorem CloIn.of {l:Lam}{caps:List AV}(js:List (Option Nat))(hk:l.scope.kind=.function)(hc:l.scope.isCoroutine=false)(hg:l.scope.isGenerator=false)(h:qog (ns.map fun x=>(x,.cell)) l.scope.names js=true)(hn:ndB l.scope.names=true)(hpl:plains caps=true):CloIn l ns caps (qcz (caps.map some) js):=by
  refine AD ?_ (qhs h);intro h1 h2;refine ⟨hk,hc,hg,qr7 hn,by rw[qcz,Ab];exact h1,fun i x hi=>?_,fun i x k hi hkk av hav=>?_,.inr fun i av hav=>?_⟩
  . refine qgj (h2 i x _ hi) ?_;intro _ h3 _;refine qa1 (h3 rfl) ?_;intro j kd' h4 h5 _;rw[Aj] at h5;cases e:ns[j]? with
    | none=>rw[e] at h5;cases h5
    | some y=>
      rw[e] at h5;injection h5 with h5
      injection h5 with h5 _
      subst h5;refine ⟨j,e,fun av hav=>?_⟩;rw[qcz,Aj,h4] at hav;simp only[Option.map_some,Option.bind_some] at hav;rw[Aj] at hav;cases e2:caps[j]? with
      | none=>rw[e2] at hav;cases hav
      | some v=>rw[e2] at hav;injection hav
  . refine qgj (h2 i x k hi) ?_;intro _ _ h3;rw[qcz,Aj,h3 hkk] at hav;cases hav
  . rw[qcz,Aj] at hav;cases e:js[i]? with
    | none=>rw[e] at hav;cases hav
    | some j=>
      rw[e] at hav;cases j with
      | none=>cases hav
      | some j=>
        simp only[Option.map_some,Option.bind_some] at hav;rw[Aj] at hav;cases e2:caps[j]? with
        | none=>rw[e2] at hav;cases hav
        | some v=>
          rw[e2] at hav;injection hav with hav
          injection hav with hav
          subst hav;have:∀(l:List AV) (j:Nat),plains l=true->∀v,l[j]?=some v->plain v=true:=by
            intro l;induction l with
            | nil=>intro j _ v h;simp at h
            | cons a l ih=>
              intro j hp v h;have hp':(plain a&&plains l)=true:=hp;rw[AG] at hp';cases j with
              | zero=>simp at h;subst h;exact hp'.1
              | succ j=>exact ih j hp'.2 v (by simpa using h)
          exact this _ _ hpl _ e2
end
section
section
variable {X Z:Type} {t2 iter2:Expr}
theorem CompC.nest (hg:gens[0]?=some ⟨t,iter,[],0⟩)(hg2:gens[1]?=some ⟨t2,iter2,[],0⟩)(xs:List X)(enc:X->AV)(ys:X->List Z)(enc2:X->Z->AV)(f:X->Z->AV)(M1:X->List (Option AV))(hA:∀x∈xs,As C k fr m σ t (enc x) (M1 x) σ)(ai2:X->AIt)(hI:∀x∈xs,ItE C k fr (M1 x) σ iter2 (ai2 x) σ)(M2:X->Z->List (Option AV))(hA2:∀x∈xs,∀y∈ys x,As C k fr (M1 x) σ t2 (enc2 x y) (M2 x y) σ)(hE:∀x∈xs,∀y∈ys x,Ev C k fr (M2 x y) σ elt (f x y) σ)(hw:∀x,Weak (M1 x) m)(hw2:∀x y,Weak (M2 x y) (M1 x))(hf:∀x y,plain (f x y)=true)(hx:ai.items=xs.map enc)(hy:∀x,x∈xs->(ai2 x).items=(ys x).map (enc2 x))(hl:gens[2]?=none)(hO:ai.Ok σ)(hO2:∀x,(ai2 x).Ok σ)(hp:ai.plain=true)(hp2:∀x,(ai2 x).plain=true)(ht:ai.pairs=true->∃elts n p,t=.Tuple elts n p)(ht2:∀x,(ai2 x).pairs=true->∃elts n p,t2=.Tuple elts n p)(hs:∀x env,BA iter2 env x=pure x)(hz:(xs.flatMap fun x=>ys x).length<=2 ^ 20):
    CompC C k fr elt gens scope pos 0 ai 0 m σ [] m σ (xs.flatMap fun x=>(ys x).map (f x)):=by
  have hle:∀l:List X,(l.flatMap fun x=>(ys x).map (f x)).length<=(l.flatMap fun x=>ys x).length:=by
    intro l;induction l with
    | nil=>simp
    | cons a l ih=>
      rw[B7,B7,Ao,Ao,Ab];simp +arith
  have e:∀(x:X) (l:List Z),l.flatMap (fun y=>[f x y])=l.map (f x):=fun x l=>by
    induction l with
    | nil=>rfl
    | cons y l ih=>rw[B7,ih];rfl
  have hin:∀x∈xs,∀acc:List AV,acc.length+((ys x).map (f x)).length<=Ai->CompC C k fr elt gens scope pos 1 (ai2 x) 0 (M1 x) σ acc (M1 x) σ (acc++(ys x).map (f x)):=by
    intro x hx' acc ha;have h:=Ibn (C:=C) (k:=k) (fr:=fr) (elt:=elt) (scope:=scope) (pos:=pos) (acc:=acc) (m:=M1 x) (d:=1) hg2 (hO2 x) (hp2 x) (ht2 x) (ys x) (enc2 x) (fun y=>[f x y]) (hy x hx')
      (fun y acc hy' ha'=>⟨M2 x y,M2 x y,true,hA2 x hx' y hy',Tests.nil,.inl ⟨rfl,Ibk hl (hE x hx' y hy') (hf x y) (by simp at ha';lia)⟩,hw2 x y⟩) (by intro g' h;rw[hl] at h;cases h) (by rw[e];exact ha)
    rw[e] at h;exact h
  have h:=Ibn (C:=C) (k:=k) (fr:=fr) (elt:=elt) (scope:=scope) (pos:=pos) (acc:=[]) (m:=m) (d:=0) hg hO hp ht xs enc (fun x=>(ys x).map (f x)) hx
    (fun x acc hx' ha=>⟨M1 x,M1 x,true,hA x hx',Tests.nil,.inl ⟨rfl,Inner.nest hg2 (hI x hx') (hin x hx' acc ha) (hs)⟩,hw x⟩) (by intro g' h;rw[hg2] at h;obtain rfl:=Sj h;rfl) (by
      have:=hle xs;rw[CW,Ay];lia)
  exact h
end
end
section
noncomputable def qv0 (outer names:List (Str×Ax)):Bool:=names.all fun p=>p.2 != .free||(Ac outer.length).any fun j=>match outer[j]? with | some (y,kd)=>y==p.1&&kcl kd==1 | none=>false
noncomputable def qve (outer names:List (Str×Ax)) (p:Str×Nat×Nat):Bool:=(names[p.2.1]?).any (fun y=>decide (y.2=.free)&&y.1==p.1)&&(outer[p.2.2]?).any fun y=>y.1==p.1&&DF (kcl y.2) 1
noncomputable def qvf (outer names:List (Str×Ax)) (ns:List Str) (js:List (Nat×Nat)):Bool:=DF js.length ns.length&&(ns.zip js).all (qve outer names)
theorem ql8 {a b:Bool}(h:(a&&b)=true):a=true/\b=true:=by rwa[AG] at h
theorem qeg {f:α->Bool}{o:Option α}(h:o.any f=true):∃x,o=some x/\f x=true:=by
  cases o with
  | none=>exact nomatch h
  | some x=>exact ⟨x,rfl,h⟩
theorem qrm {outer:List (Str×Ax)}{l:Nat}(h:qve outer names (x,l,j)=true):∃kd,names[l]?=some (x,.free)/\outer[j]?=some (x,kd)/\kcl kd=1:=by
  obtain ⟨h1,h2⟩:=ql8 h;obtain ⟨⟨y,_⟩,e1,h1⟩:=qeg h1;obtain ⟨⟨z,kd⟩,e2,h2⟩:=qeg h2;obtain ⟨a1,a2⟩:=ql8 h1;obtain ⟨b1,b2⟩:=ql8 h2;obtain rfl:=of_decide_eq_true a1;obtain rfl:=CK a2;obtain rfl:=CK b1;exact ⟨kd,e1,e2,Ez b2⟩
theorem qrn {outer:List (Str×Ax)}{js:List (Nat×Nat)}(h:qvf outer names ns js=true):js.length=ns.length/\∀(i:Nat) (x:Str),ns[i]?=some x->∃l j kd,js[i]?=some (l,j)/\names[l]?=some (x,.free)/\outer[j]?=some (x,kd)/\kcl kd=1:=by
  obtain ⟨h1,h2⟩:=ql8 h;have hl:=Ez h1;refine ⟨hl,fun i x hx=>?_⟩;have hj:js[i]?=some (js[i]'(hl ▸ (Ap.mp hx).1)):=Ad _;generalize js[i]'(hl ▸ (Ap.mp hx).1)=p at hj;obtain ⟨l,j⟩:=p;exact (qrm (BZ.mp h2 (x,l,j) (Aw (List.getElem?_zip_eq_some.mpr ⟨hx,hj⟩)))).imp' (fun _=>l) fun kd q=>⟨j,kd,hj,q⟩
theorem LamCap.of {caps:List AV}(js:List (Nat×Nat))(h1:qvf C.nm names ns js=true)(h2:js.map (fun p=>(m[p.2]?).join)=caps.map some)(h3:qv0 C.nm names=true):LamCap C m names ns caps:=by
  refine AD ?_ (qrn h1);intro hl hat;refine ⟨fun i x hx=>?_,fun i x hx=>?_,?_⟩
  . have:=BZ.mp h3 (x,.free) (Aw hx);simp only[D3,bne_self_eq_false,AY,false_or,EI] at this;refine qa5 (this) ?_;intro j _ hj;cases e:C.nm[j]? with
    | none=>rw[e] at hj;cases hj
    | some p=>
      rw[e] at hj;obtain ⟨y,kd⟩:=p;simp at hj;exact ⟨j,kd,by rw[e,hj.1],hj.2⟩
  . refine qa2 (hat i x hx) ?_;intro l j kd a b c d;have:(js.map (fun p=>(m[p.2]?).join))[i]?=some ((m[j]?).join):=by rw[Aj,a];rfl
    rw[h2,Aj] at this;cases e:caps[i]? with
    | none=>rw[e] at this;cases this
    | some av=>
      rw[e] at this;simp at this;refine ⟨l,j,kd,av,b,c,d,?_,rfl⟩;cases e2:m[j]? with
      | none=>rw[e2] at this;cases this
      | some o=>rw[e2] at this;simp at this;rw[this]
  . have:=congrArg Fx h2;rw[Ab,Ab] at this;lia
theorem qqg {a b:Str}(ha:Bt a=true)(hb:Bt b=true):Bt (a++b)=true:=by
  unfold Bt at *;rw[PySem.Str.cps_append,Array.all_append,ha,hb];rfl
theorem qib {sep:Str}(hs:Bt sep=true):∀l:List Str,(∀a∈l,Bt a=true)->Bt (PySem.Str.join sep l)=true
  | [],_=>by simp[PySem.Str.join,Bt,PySem.Str.empty]
  | [x],h=>h x (Am ..)
  | x::y::r,h=>by
    show Bt (x++sep++PySem.Str.join sep (y::r))=true;exact qqg (qqg (h x (Am ..)) hs) (qib hs (y::r) fun a ha=>h a (Az _ ha))
theorem qr3 {sep:Str}(hs:Bt sep=true)(l:List Str)(h:∀a∈l,Bt a=true):Bt (DN sep l)=true:=by
  show Bt (AA.Str.glued sep l)=true;rw[StrLaws.glued_eq_join];exact qib hs l h
noncomputable def qs4 (e:Expr) (i:Nat):Expr:=(exS e).2.2.2.2.1.getD i e
noncomputable def ql6 (outer:List (Str×Ax)):List (Str×Ax)->List (Option Nat)->Bool
  | [],[]=>true
  | (x,kd)::names,j::js=>(match kd,j with
      | .free,some j=>(match outer[j]? with | some (y,kd')=>y==x&&kcl kd'==1 | none=>false)
      | .free,none=>false
      | _,none=>true
      | _,some _=>false)&&ql6 outer names js
  | _,_=>false
theorem qj5 {outer:List (Str×Ax)}:∀{names:List (Str×Ax)} {js:List (Option Nat)},ql6 outer names js=true->js.length=names.length/\∀(i:Nat) (x:Str) (kd:Ax),names[i]?=some (x,kd)->(kd=.free->∃j kd',js[i]?=some (some j)/\outer[j]?=some (x,kd')/\kcl kd'=1)/\(kd≠.free->js[i]?=some none)
  | [],[],_=>⟨rfl,fun i x kd h=>by simp at h⟩
  | [],_::_,h=>by cases h
  | _::_,[],h=>by cases h
  | (y,ky)::names,j::js,h=>by
    have h':(_&&ql6 outer names js)=true:=h;rw[AG] at h';obtain ⟨h1,h2⟩:=qj5 h'.2;refine ⟨by simp[h1],fun i x kd hi=>?_⟩;cases i with
    | succ i=>simp only[Dm] at hi ⊢;exact h2 i x kd hi
    | zero=>
      simp at hi;obtain ⟨rfl,rfl⟩:=hi;have h3:=h'.1;cases ky with
      | «local»=>cases j with | none=>exact ⟨(fun q=>by cases q),fun _=>rfl⟩ | some j=>cases h3
      | globalExplicit=>cases j with | none=>exact ⟨(fun q=>by cases q),fun _=>rfl⟩ | some j=>cases h3
      | globalImplicit=>cases j with | none=>exact ⟨(fun q=>by cases q),fun _=>rfl⟩ | some j=>cases h3
      | cell=>cases j with | none=>exact ⟨(fun q=>by cases q),fun _=>rfl⟩ | some j=>cases h3
      | free=>
        cases j with
        | none=>cases h3
        | some j=>
          refine ⟨fun _=>?_,fun q=>absurd rfl q⟩;simp only at h3;cases e:outer[j]? with
          | none=>rw[e] at h3;cases h3
          | some p=>
            obtain ⟨z,kz⟩:=p;rw[e] at h3;simp at h3;exact ⟨j,kz,rfl,by rw[e,h3.1],h3.2⟩
noncomputable def qf2:List (Option AV)->Bool
  | []=>true
  | none::l=>qf2 l
  | some v::l=>plain v&&qf2 l
theorem qfp:∀{l:List (Option AV)},qf2 l=true->∀(i:Nat) (av:AV),l[i]?=some (some av)->plain av=true
  | [],_,i,av,h=>by simp at h
  | none::l,hp,i,av,h=>by
    cases i with
    | zero=>simp at h
    | succ i=>simp at h;exact qfp (l:=l) hp i av h
  | some v::l,hp,i,av,h=>by
    have hp':(plain v&&qf2 l)=true:=hp;rw[AG] at hp';cases i with
    | zero=>simp at h;rw[<- h];exact hp'.1
    | succ i=>simp at h;exact qfp hp'.2 i av h
theorem Ibm (js:List (Option Nat))(h:ql6 C.nm names js=true)(hn:ndB names=true)(hp:qf2 (qcz m js)=true):CompIn C m names (qcz m js):=by
  refine AD ?_ (qj5 h);intro h1 h2;refine ⟨qr7 hn,by simp[qcz,h1],fun i x hi=>?_,fun i x kd hi hk av q=>?_,.inr (qfp hp)⟩
  . refine qa1 ((h2 i x _ hi).1 rfl) ?_;intro j kd e1 e2 e3;refine ⟨j,kd,e2,e3,fun av q=>?_⟩;simp only[qcz,Aj,e1] at q;simp at q;cases e:m[j]? with
    | none=>rw[e] at q;simp at q
    | some o=>rw[e] at q;simp at q;rw[q]
  . have:=(h2 i x kd hi).2 hk;simp[qcz,Aj,this] at q
noncomputable def qv7:Expr->List Expr
  | .Call _ as _ _=>as
  | _=>[]
end
section
theorem qr5 {m:Str->Option Value}(G:h.Ns a m):¬h.get? a=some (Em #[]):=fun e=>by
  refine qar (G) ?_;intro o es ep ho hd _;rw[e] at ho;obtain rfl:=Sj ho;cases hd
noncomputable def qvn (prog:Dq) (w:World) (s:Al) (mg mb:Str->Option Value) (G:s.heap.Ns Bk mg) (B:s.heap.Ns Bm mb) (L:s.heap.NoLimit) (Cs:∃mc,s.heap.Ns cStatics mc) (S:∃o,s.heap.get? Cp=some o):Wd where
  prog:=prog
  w:=w
  s1:=s
  mg:=mg
  mb:=mb
  tab:=fun a=>Eh s.heap a/\s.heap.get? a=some (Em #[])
  tabEx:=fun _ h=>h.2
  gNs:=G
  bNs:=B
  nolim:=L
  gNT:=fun q=>qr5 G q.2
  bNT:=fun q=>qr5 B q.2
  cNT:=let ⟨_,h⟩:=Cs;fun q=>qr5 h q.2
  sm:=S
noncomputable def qif:List Str->Bool
  | []=>true
  | x::l=>!l.contains x&&qif l
theorem qg1:∀{l:List Str},qif l=true->l.Nodup
  | [],_=>.nil
  | x::l,h=>by
    unfold qif at h;rw[AG] at h;refine Gm.mpr ⟨fun q=>?_,qg1 h.2⟩;have:=h.1;rw[Cn.mpr q] at this;cases this
theorem qih:∀{l:List (Str×Ax)} {i:Nat} {x:Str} {k:Ax},(l.map (·.1)).Nodup->l[i]?=some (x,k)->l.lookup x=some k
  | [],i,x,k,_,h=>by simp at h
  | p::l,0,x,k,_,h=>by
    rw[List.getElem?_cons_zero] at h;obtain rfl:=Sj h;rw[AU,beq_self_eq_true]
  | p::l,i+1,x,k,hn,h=>by
    rw[Dm] at h;rw[Bz,Gm] at hn;have hm:x∈l.map (·.1):=Br.mpr ⟨(x,k),Aw h,rfl⟩;have hne:(x==p.1)=false:=by
      cases hq:x==p.1 with
      | false=>rfl
      | true=>rw[CK hq] at hm;exact absurd hm hn.1
    obtain ⟨p1,p2⟩:=p;rw[AU,hne];exact qih hn.2 h
noncomputable def qn9:Ax->Bool
  | .free=>false
  | _=>true
theorem qtx {oc:Obj}{fd:BS}{vs:Array Value}{t:Nat}(ho:W.s1.heap.get? a=some o)(hc:W.s1.heap.get? c=some oc)(hd:o.data=.func fd)(hcd:fd.code=.ref c)(hv:oc.data=.fields vs)(h1:vs[1]?=some (.str fd.qualname t))(hco:fd.scope.isCoroutine=false)(hgen:fd.scope.isGenerator=false)(hcl:fd.closure=[])(hgl:fd.globals=Bk)(hbl:fd.builtins=Bm)(hk:fd.scope.kind=.function)(hb:fd.body=.stmts body)(hn:fd.scope.names=nm)(nd:qif (nm.map (·.1))=true)(nf:(nm.all fun p=>qn9 p.2)=true)(Y:Nat->Prop):qqt ⟨W,Y,nm,fd.code⟩ a fd body where
  get:=⟨o,ho,hd⟩
  nt:=fun q=>by rw[W.tabEx a q] at ho;obtain rfl:=Sj ho;cases hd
  co:=hco
  gen:=hgen
  kind:=hk
  body:=hb
  code:=⟨c,oc,vs,t,hcd,hc,fun q=>by rw[W.tabEx c q] at hc;obtain rfl:=Sj hc;cases hv;simp at h1,hv,h1⟩
  clo:=hcl
  glob:=hgl
  blt:=hbl
  nm:=hn.symm
  nd:=fun i j x k k' hi hj=>by
    have h:=qg1 nd;have e1:(nm.map (·.1))[i]?=some x:=by rw[Aj];show Option.map _ (nm[i]?)=_;rw[show nm[i]?=some (x,k) from hi];rfl
    have e2:(nm.map (·.1))[j]?=some x:=by rw[Aj];show Option.map _ (nm[j]?)=_;rw[show nm[j]?=some (x,k') from hj];rfl
    refine Aq (Ap.mp e1) ?_;intro l1 q1;refine Aq (Ap.mp e2) ?_;intro l2 q2;have hp:=Bo.mp h;rcases Ek i j with hl | hl | hl
    . exact absurd (q1.trans q2.symm) (hp i j l1 l2 hl)
    . exact hl
    . exact absurd (q2.trans q1.symm) (hp j i l2 l1 hl)
  lk:=fun i x k hi=>by rw[hn];exact qih (qg1 nd) hi
  cd:=rfl
  nofree:=fun i x q=>by
    have:=BZ.mp nf _ (Aw q);cases this
theorem qtp {oc:Obj}{vs:Array Value}(hcd:cd=.ref c)(hc:W.s1.heap.get? c=some oc)(hv:oc.data=.fields vs)(h1:(vs[1]?).isSome=true)(C:Gd W.s1.heap c P)(hP:W.tab P)(bm:∃bm ob,W.mg "__builtins__"=some (.ref bm)/\bm≠Bm/\W.s1.heap.get? bm=some ob/\ob.cls=.type "module"/\ob.dict=some Bm/\ob.data=.plain):qp0 W cd:=by
  refine qdd (bm) ?_;(try clear bm);intro bm ob b1 b2 b3 b4 b5 b6;have hbt:¬W.tab bm:=fun q=>by rw[W.tabEx bm q] at b3;obtain rfl:=Sj b3;cases b6
  refine ⟨c,P,fun Y nm=>⟨hcd,C,fun q=>by rw[W.tabEx c q] at hc;obtain rfl:=Sj hc;cases hv;simp at h1,hP,⟨bm,ob,b1,b2,fun q=>?_,fun q=>hbt (q ▸ hP),b3,b4,b5,b6⟩,fun bm' q=>?_⟩⟩
  . refine qar (W.gNs) ?_;intro o es ep ho hd _;rw[q] at b3;rw[b3] at ho;obtain rfl:=Sj ho;rw[b6] at hd;cases hd
  . rw[b1] at q;cases q;exact hbt
theorem qch {fd:BS}{K:Frag}(X:∀a o,K.lookup a=some o->W.s1.heap.get? a=some o/\o.cls≠.none)(h:∀us ks,us.length=args.length->ks.length=kv.length->∃ws,(∀S,peek K S (Da fd ⟨us,kn.zip ks⟩)=some (xs.zip ws))/\∀g h',RVs W g h' args us->RVs W g h' kv ks->RVs W g h' vs ws):qcu W fd args kn kv xs vs:=fun fr g σ s us ks R ru rk=>by
  refine qa5 (h us ks ru.length rk.length) ?_;intro ws e q;refine ⟨ws,fun M A E Q hq=>?_,q g s.heap ru rk⟩;have hK:K.In s.heap:=fun a o e=>by
    refine AD ?_ (X a o e);intro q1 q2;exact R.base a o q1 fun t=>by rw[W.tabEx a t] at q1;obtain rfl:=Sj q1;exact q2 rfl
  exact (Looks.of_peek (M:=M) hK (e _)).here hq
theorem qpp {b:Addr}{p:Obj}(ha:h.get? a=some o)(hb:h.get? b=some p)(h1:o.cls≠.none)(h2:p.cls≠.none):∀c q,List.lookup c [(a,o),(b,p)]=some q->h.get? c=some q/\q.cls≠.none:=fun c q e=>by
  rw[AU] at e;cases h3:c==a with
  | true=>rw[h3] at e;obtain rfl:=Sj e;rw[CK h3];exact ⟨ha,h1⟩
  | false=>
    rw[h3] at e;rw[AU] at e;cases h4:c==b with
    | true=>rw[h4] at e;obtain rfl:=Sj e;rw[CK h4];exact ⟨hb,h2⟩
    | false=>rw[h4] at e;cases e
theorem RVs.one {a:AV}{v:Value}{r:List Value}(q:RVs W g h (a::l) (v::r)):RV W g h a v/\RVs W g h l r:=by
  refine qa1 (q) ?_;intro v' r' e q1 q2;cases e;exact ⟨q1,q2⟩
theorem RVs.two {a:AV}{v:Value}{r:List Value}(q1:RV W g h a v)(q2:RVs W g h l r):RVs W g h (a::l) (v::r):=⟨v,r,rfl,q1,q2⟩
theorem RVs.none:RVs W g h [] []:=rfl
theorem qio:∀{vs:List Value} {ns:List Int},IntsAre vs ns->RVs W g h (qa7 ns) vs
  | _,_,.nil=>rfl
  | _,_,.cons _ t r=>⟨_,_,rfl,⟨t,rfl⟩,qio r⟩
noncomputable def qox (a:Addr):Addr->Own:=by classical exact fun b=>if b=a then .fz else .other
theorem qvm (W:Wd)(a:Addr)(ho:W.s1.heap.get? a=some o)(hc:o.cls≠.none)(hg:W.s1.gens=#[]):Rep W [] (qox a) [] W.s1:=by
  have hgc:∀b,qox a b=.fz\/qox a b=.other:=fun b=>by unfold qox;split <;> simp
  have hx:∀b n,¬(qox a b=.loc n\/qox a b=.aux n):=fun b n q=>by rcases hgc b with e | e <;> rw[e] at q <;> simp at q
  exact { base:=fun b o h _=>h
          baseO:=fun b o h=>(hgc b).symm
          tabO:=fun b h=>by
            unfold qox;split
            . rename_i e;rw[e] at h;rw[W.tabEx a h] at ho;obtain rfl:=Sj ho;exact absurd rfl hc
            . rfl
          tabs:=fun b h=>⟨#[],W.tabEx b h,trivial,fun pos v q=>by simp[EF] at q⟩
          low:=fun b h=>by
            unfold qox at h;split at h
            . rename_i e;rw[e];exact ⟨o,ho⟩
            . exact absurd rfl h
          locs:=fun n ao h=>by simp at h
          uniq:=fun b c n h=>absurd (.inl h) (hx b n)
          pl:=fun n ao h=>by simp at h
          bnd:=fun b n h=>absurd h (hx b n)
          frs:=fun e h=>by cases h
          gens:=hg
          os:=rfl }
theorem qr2 {s':Al}(R':Rep W [] g' z' s')(hcd:∀P,W.tab P->Eh W.s1.heap P):OldK W.s1.heap s'.heap:=by
  have key:∀b o,W.s1.heap.get? b=some o->¬W.tab b->s'.heap.get? b=some o:=fun b o h t=>R'.base b o h t
  refine ⟨fun b o h=>?_,fun b o h=>?_⟩
  . by_cases ht:W.tab b
    . refine qa5 (R'.tabs b ht) ?_;intro more h1 _;have:=W.tabEx b ht;rw[h] at this;obtain rfl:=Sj this;exact .inr (.inl ⟨hcd b ht,rfl,#[],more,rfl,by rw[Array.empty_append];exact h1⟩)
    . exact .inl (key b o h ht)
  . by_cases ht:W.tab b
    . refine qa5 (R'.tabs b ht) ?_;intro more h1 _;exact ⟨_,h1⟩
    . exact ⟨o,key b o h ht⟩
theorem qsq (C:Gd h c P)(hP:h.get? P=some (Em #[])):Eh h P/\h.get? P=some (Em #[]):=by
  refine qfx (C) ?_;intro o vs file tf flags tg inF text tt h1 h2 h3 h4 _;exact ⟨⟨c,o,vs,h1,h2,h3,h4⟩,hP⟩
end
section
noncomputable def qvh (e:CY) (p:Int×Str):Bool:=
  match e.key with
  | .int k _=>match e.val with
    | .str s _=>decide (k=p.1)&&decide (e.hash=hashInt k)&&s==p.2
    | _=>false
  | _=>false
noncomputable def qui:List CY->List (Int×Str)->Bool
  | [],[]=>true
  | e::es,p::l=>qvh e p&&qui es l
  | _,_=>false
theorem qo7 {e:CY}{p:Int×Str}(h:qvh e p=true):∃t u,e=⟨hashInt p.1,.int p.1 t,.str p.2 u⟩:=by
  obtain ⟨x,k,v⟩:=e;cases k with
  | int k t=>
    cases v with
    | str s u=>
      obtain ⟨h1,h2⟩:=AJ.mp h;obtain ⟨h3,h4⟩:=AJ.mp h1;have e1:=of_decide_eq_true h3;have e2:=of_decide_eq_true h4;have e3:=CK h2;subst e1 e3;exact ⟨t,u,congrArg (fun y=>CY.mk y _ _) e2⟩
    | _=>exact Di h
  | _=>exact Di h
theorem qmg (prog:Dq)(w:World):∀{es:List CY} {l:List (Int×Str)},qui es l=true->∃us,(∀e∈es,∃k,(PySem.intKind prog w).is k e.key=true/\e.hash=(PySem.intKind prog w).hash k)/\Pairs (PySem.intKind prog w) es ((l.map (·.1)).zip us)/\StrsAre us (l.map (·.2))/\us.length=l.length
  | [],[]=>fun _=>⟨[],(fun _ h=>absurd h CJ),.nil,.nil,rfl⟩
  | [],_::_=>fun h=>Di h
  | _::_,[]=>fun h=>Di h
  | e::es,p::l=>fun h=>by
    obtain ⟨h1,h2⟩:=AJ.mp h;refine qjj (qo7 h1) ?_;intro t u eq_4_2;subst eq_4_2;refine qbx (qmg prog w h2) ?_;intro us g1 g2 g3 g4;have hi:(PySem.intKind prog w).is p.1 (.int p.1 t)=true:=by show Value.isInt p.1 (.int p.1 t)=true;simp[Value.isInt]
    refine ⟨.str p.2 u::us,fun e he=>?_,.cons hi rfl g2,.cons p.2 u g3,congrArg (· + 1) g4⟩;rcases AS.mp he with rfl | he
    . exact ⟨p.1,hi,rfl⟩
    . exact g1 e he
theorem qpn {es:Array CY}{ep:Nat}{l:List (Int×Str)}(ho:W.s1.heap.get? a=some o)(hs:(a==Cp)=false)(hx:o.ExactDict)(hd:o.data=.dict es ep)(h:qui es.toList l=true)(hn:(l.map (·.1)).Nodup):qja W a l where
  nt:=fun q=>by rw[W.tabEx a q] at ho;obtain rfl:=Sj ho;cases hd
  ns:=hs
  at_:=by
    refine qbx (qmg W.prog W.w h) ?_;intro us h1 h2 h3 h4;refine ⟨us,⟨o,es,ep,ho,hx,hd,fun e he=>h1 e (by simpa using he),h2,?_⟩,h3⟩;rw[List.map_fst_zip (by simp[h4])];exact hn
theorem qu4 (ho:W.s1.heap.get? a=some o)(hx:o.ExactDict)(hd:o.data=.dict #[] 0)(hs:(a==Cp)=false)(σ:List AObj):Dsrc W σ (.glob (.ref a)) [] []:=
  .inr ⟨a,rfl,rfl,rfl,⟨o,#[],0,ho,hx,hd,fun e he=>absurd he (by simp),.nil,.nil⟩,(fun q=>by rw[W.tabEx a q] at ho;obtain rfl:=Sj ho;cases hd),hs⟩
theorem qg8 {β:Type}{f:α->β->Sem (ForInStep β)}(g:β->α->β)(P:β->Prop):∀(l:List α) (b:β),P b->(∀a∈l,∀b,P b->f a b=pure (.yield (g b a))/\P (g b a))->forIn l b f=pure (l.foldl g b)
  | [],b,_,_=>rfl
  | a::l,b,hb,h=>by
    obtain ⟨h1,h2⟩:=h a Am b hb;rw[Cj,h1];exact qg8 g P l _ h2 fun x hx=>h x (Az _ hx)
theorem qiu (s:S):∀(l:List (Str×Value)) (e:List (Str×Value)),l.foldl (fun (r:S×List (Str×Value)) a=>(r.1,r.2++[a])) (s,e)=(s,e++l)
  | [],e=>by simp
  | a::l,e=>by rw[Gl,qiu s l];simp
theorem ql7 {fd:BS}{a1 a2 a3 kw:Arg}{kd:List (Option Expr)}{ds:List Expr}(hp:fd.params={ posonlyargs:=[],args:=[a1,a2,a3],vararg:=none,kwonlyargs:=[],kw_defaults:=kd,kwarg:=some kw,defaults:=ds })(h1:a1.arg="parent")(h2:a2.arg="tag")(h3:a3.arg="attrib")(hx:kw.arg="extra"){l:List (Str×Value)}(hl:∀p∈l,p.1∉(["parent", "tag", "attrib"]:List Str))(hz:l.length<=Ai+1)(u:List Value):
    ∃k,Da fd ⟨u,l⟩=(seqItems? fd.defaults) >>= k/\(∀d u1 u2 u3,u=[u1,u2,u3]->k (some #[d])=(do
        let D <- alloc { cls:=.type "dict",data:=.dict #[] }
        forIn l Ce (fun kv _=>do nsSet D kv.1 kv.2;pure (.yield Ce))
        pure ([("parent",u1),("tag",u2),("attrib",u3),("extra",.ref D)]:List (Str×Value))))/\(∀d u1 u2,u=[u1,u2]->k (some #[d])=(do
        let D <- alloc { cls:=.type "dict",data:=.dict #[] }
        forIn l Ce (fun kv _=>do nsSet D kv.1 kv.2;pure (.yield Ce))
        pure ([("parent",u1),("tag",u2),("attrib",d),("extra",.ref D)]:List (Str×Value)))):=by
  obtain ⟨f1,f2,pr,f4,f5,f6,f7,f8,f9,f10,f11,f12,f13,f14,f15⟩:=fd;obtain rfl:pr=_:=hp;obtain ⟨_,b1,c1⟩:=a1;obtain rfl:_=("parent":Str):=h1;obtain ⟨_,b2,c2⟩:=a2;obtain rfl:_=("tag":Str):=h2;obtain ⟨_,b3,c3⟩:=a3;obtain rfl:_=("attrib":Str):=h3;obtain ⟨_,b4,c4⟩:=kw;obtain rfl:_=("extra":Str):=hx;have hc:∀a∈l,¬(((["parent", "tag", "attrib"]:List Str).contains a.1||([]:List Str).contains a.1)=true):=fun a ha q=>hl a ha (Cn.mp (((Bool.or_false _).symm.trans q)))
  have hf:=qiu (S:=List (Str×Value)) ((["parent", "tag", "attrib"]:List Str).zip u) l [];refine ⟨_,Eq.trans (congrArg (· >>= _) ((qg8 (β:=List (Str×Value)×List (Str×Value)) (fun r a=>(r.1,r.2++[a])) (fun _=>True) l ((["parent", "tag", "attrib"]:List Str).zip u,[]) trivial fun a ha b _=>⟨if_neg (hc a ha),trivial⟩).trans (congrArg pure hf))) (Eq.refl _),fun d u1 u2 u3 e=>?_,fun d u1 u2 e=>?_⟩
  . subst e;exact (if_neg (Be.mpr hz)).trans rfl
  . subst e;exact (if_neg (Be.mpr hz)).trans rfl
end
section
theorem qr8 (prog:Dq)(w:World)(s:Al)(mg mb:Str->Option Value)(G:s.heap.Ns Bk mg)(B:s.heap.Ns Bm mb)(L:s.heap.NoLimit)(Cs:∃mc,s.heap.Ns cStatics mc/\mc "sys.int_max_str_digits"=none)(S:∃o,s.heap.get? Cp=some o):
    ∃W:Wd,W.w=w/\W.s1=s/\W.mg=mg/\W.mb=mb/\W.prog=prog/\(∀a,W.tab a↔(Eh s.heap a/\s.heap.get? a=some (Em #[]))):=
  ⟨qvn prog w s mg mb G B L (let ⟨m,h,_⟩:=Cs;⟨m,h⟩) S,rfl,rfl,rfl,rfl,rfl,fun _=>Iff.rfl⟩
noncomputable def qna:Ax->Bool
  | .cell=>false
  | _=>true
theorem qt0 (h:(nm.all fun p=>qna p.2)=true)(i:Nat)(x:Str):nm[i]?≠some (x,.cell):=fun q=>by
  have:=BZ.mp h _ (Aw q);cases this
section
variable {fd:BS} {K:Frag}
theorem bp1 {x0:Str}(h:∀S u0,peek [] S (Da fd ⟨[u0],[]⟩)=some [(x0,u0)])(v0:AV):qcu W fd [v0] [] [] [x0] [v0]:=
  qch (K:=[]) (fun _ _ e=>nomatch e) fun us ks hu hk=>by
    refine Aq (ln1 hu) ?_;intro u0 eq_0_1;subst eq_0_1;obtain rfl:=ln0 hk;exact ⟨[u0],fun S=>h S u0,fun g h ra _=>ra⟩
theorem bp2 {x0 x1:Str}(h:∀S u0 u1,peek [] S (Da fd ⟨[u0,u1],[]⟩)=some [(x0,u0),(x1,u1)])(v0 v1:AV):qcu W fd [v0,v1] [] [] [x0,x1] [v0,v1]:=
  qch (K:=[]) (fun _ _ e=>nomatch e) fun us ks hu hk=>by
    refine qjj (ln2 hu) ?_;intro u0 u1 eq_0_2;subst eq_0_2;obtain rfl:=ln0 hk;exact ⟨[u0,u1],fun S=>h S u0 u1,fun g h ra _=>ra⟩
theorem bp3 {x0 x1 x2:Str}(h:∀S u0 u1 u2,peek [] S (Da fd ⟨[u0,u1,u2],[]⟩)=some [(x0,u0),(x1,u1),(x2,u2)])(v0 v1 v2:AV):qcu W fd [v0,v1,v2] [] [] [x0,x1,x2] [v0,v1,v2]:=
  qch (K:=[]) (fun _ _ e=>by cases e) fun us ks hu hk=>by
    match us,hu,ks,hk with
    | [u0,u1,u2],_,[],_=>exact ⟨[u0,u1,u2],fun S=>h S u0 u1 u2,fun g h ra _=>ra⟩
variable {t:Nat} (X : ∀ a o, K.lookup a = some o -> W.s1.heap.get? a = some o /\ o.cls ≠ .none)
include X
theorem bk2 (h:∀S u0 u1 k0,peek K S (Da fd ⟨[u0,u1],[("key",k0)]⟩)=some ([("a",u0),("x",u1),("lo",.int 0 t),("hi",.none),("key",k0)]:List (Str×Value)))(a x key:AV):qcu W fd [a,x] ["key"] [key] ["a", "x", "lo", "hi", "key"] [a,x,.int 0,.none,key]:=
  qch X fun us ks hu hk=>by
    refine qjj (ln2 hu) ?_;intro u0 u1 eq_0_2;subst eq_0_2;refine Aq (ln1 hk) ?_;intro k0 eq_1_1;subst eq_1_1;exact ⟨[u0,u1,.int 0 t,.none,k0],fun S=>h S u0 u1 k0,fun g h ra rk=>.two ra.one.1 (.two ra.one.2.one.1 (.two ⟨t,rfl⟩ (.two rfl rk)))⟩
theorem bk3 (h:∀S u0 u1 u2 k0,peek K S (Da fd ⟨[u0,u1,u2],[("key",k0)]⟩)=some ([("a",u0),("x",u1),("lo",u2),("hi",.none),("key",k0)]:List (Str×Value)))(a x lo key:AV):qcu W fd [a,x,lo] ["key"] [key] ["a", "x", "lo", "hi", "key"] [a,x,lo,.none,key]:=
  qch X fun us ks hu hk=>by
    refine qn5 (ln3 hu) ?_;intro u0 u1 u2 eq_0_3;subst eq_0_3;refine Aq (ln1 hk) ?_;intro k0 eq_1_1;subst eq_1_1;exact ⟨[u0,u1,u2,.none,k0],fun S=>h S u0 u1 u2 k0,fun g h ra rk=>.two ra.one.1 (.two ra.one.2.one.1 (.two ra.one.2.one.2.one.1 (.two rfl rk)))⟩
theorem bk4 (h:∀S u0 u1 u2 u3 k0,peek K S (Da fd ⟨[u0,u1,u2,u3],[("key",k0)]⟩)=some ([("a",u0),("x",u1),("lo",u2),("hi",u3),("key",k0)]:List (Str×Value)))(a x lo hi key:AV):qcu W fd [a,x,lo,hi] ["key"] [key] ["a", "x", "lo", "hi", "key"] [a,x,lo,hi,key]:=
  qch X fun us ks hu hk=>by
    obtain ⟨u0,u1,u2,u3,rfl⟩:=ln4 hu;obtain ⟨k0,rfl⟩:=ln1 hk;exact ⟨[u0,u1,u2,u3,k0],fun S=>h S u0 u1 u2 u3 k0,fun g h ra rk=>.two ra.one.1 (.two ra.one.2.one.1 (.two ra.one.2.one.2.one.1 (.two ra.one.2.one.2.one.2.one.1 rk)))⟩
theorem bn4 (h:∀S u0 u1 u2 u3,peek K S (Da fd ⟨[u0,u1,u2,u3],[]⟩)=some ([("a",u0),("x",u1),("lo",u2),("hi",u3),("key",.none)]:List (Str×Value)))(a x lo hi:AV):qcu W fd [a,x,lo,hi] [] [] ["a", "x", "lo", "hi", "key"] [a,x,lo,hi,.none]:=
  qch X fun us ks hu hk=>by
    obtain ⟨u0,u1,u2,u3,rfl⟩:=ln4 hu;obtain rfl:=ln0 hk;exact ⟨[u0,u1,u2,u3,.none],fun S=>h S u0 u1 u2 u3,fun g h ra rk=>.two ra.one.1 (.two ra.one.2.one.1 (.two ra.one.2.one.2.one.1 (.two ra.one.2.one.2.one.2.one.1 (.two rfl .none))))⟩
theorem bn2 (h:∀S u0 u1,peek K S (Da fd ⟨[u0,u1],[]⟩)=some ([("a",u0),("x",u1),("lo",.int 0 t),("hi",.none),("key",.none)]:List (Str×Value)))(a x:AV):qcu W fd [a,x] [] [] ["a", "x", "lo", "hi", "key"] [a,x,.int 0,.none,.none]:=
  qch X fun us ks hu hk=>by
    refine qjj (ln2 hu) ?_;intro u0 u1 eq_0_2;subst eq_0_2;obtain rfl:=ln0 hk;exact ⟨[u0,u1,.int 0 t,.none,.none],fun S=>h S u0 u1,fun g h ra rk=>.two ra.one.1 (.two ra.one.2.one.1 (.two ⟨t,rfl⟩ (.two rfl (.two rfl .none))))⟩
end
theorem Binds.ok (hc:(nm.all fun p=>qna p.2)=true)(hi:nm[i]?=some (x,.local))(r:Binds nm xs vs (m.set i (some v)) m'):Binds nm (x::xs) (v::vs) m m':=
  .cons hi (.inl rfl) (.inr (qt0 hc)) r
theorem Binds.pl (hp:plain v=true)(hi:nm[i]?=some (x,kd))(hk:kd=.local\/kd=.cell)(r:Binds nm xs vs (m.set i (some v)) m'):Binds nm (x::xs) (v::vs) m m':=
  .cons hi hk (.inl hp) r
theorem bxt {fd:BS}{a1 a2 a3 kw:Arg}{kd:List (Option Expr)}{ds:List Expr}{T:Addr}{d:Value}(hd:fd.defaults=.ref T)(ho:W.s1.heap.get? T=some o)(hs:o.data=.seq #[d] n)(hp:fd.params={ posonlyargs:=[],args:=[a1,a2,a3],vararg:=none,kwonlyargs:=[],kw_defaults:=kd,kwarg:=some kw,defaults:=ds })(h1:a1.arg="parent")(h2:a2.arg="tag")(h3:a3.arg="attrib")(hx:kw.arg="extra")(p tag t:AV)(kn:List Str)(kv:List AV)(hnd:kn.Nodup)(hl:kn.length=kv.length)(hpl:plains kv=true)(hn:∀x∈kn,x∉(["parent", "tag", "attrib"]:List Str))(hz:kn.length<=Ai):BindX W fd [p,tag,t] kn kv ["parent", "tag", "attrib", "extra"] [p,tag,t]:=
  BindX.of hd ho (fun q=>by rw[W.tabEx T q] at ho;obtain rfl:=Sj ho;cases hs) hs hnd hl hpl fun us ks hu hk=>by
    refine qn5 (ln3 hu) ?_;intro u1 u2 u3 eq_0_3;subst eq_0_3;refine qaj (ql7 hp h1 h2 h3 hx (l:=kn.zip ks) (fun q hq=>hn _ (Gp (a:=q.1) (b:=q.2) hq).1) (by simp;lia) [u1,u2,u3]) ?_;intro k e1 e2 _;exact ⟨k,[u1,u2,u3],e1,e2 d u1 u2 u3 rfl,fun g h r=>r⟩
theorem bxd {fd:BS}{a1 a2 a3 kw:Arg}{kd:List (Option Expr)}{ds:List Expr}{T:Addr}{d:Value}(hd:fd.defaults=.ref T)(ho:W.s1.heap.get? T=some o)(hs:o.data=.seq #[d] n)(hp:fd.params={ posonlyargs:=[],args:=[a1,a2,a3],vararg:=none,kwonlyargs:=[],kw_defaults:=kd,kwarg:=some kw,defaults:=ds })(h1:a1.arg="parent")(h2:a2.arg="tag")(h3:a3.arg="attrib")(hx:kw.arg="extra")(p tag:AV)(kn:List Str)(kv:List AV)(hnd:kn.Nodup)(hl:kn.length=kv.length)(hpl:plains kv=true)(hn:∀x∈kn,x∉(["parent", "tag", "attrib"]:List Str))(hz:kn.length<=Ai):BindX W fd [p,tag] kn kv ["parent", "tag", "attrib", "extra"] [p,tag,.glob d]:=
  BindX.of hd ho (fun q=>by rw[W.tabEx T q] at ho;obtain rfl:=Sj ho;cases hs) hs hnd hl hpl fun us ks hu hk=>by
    refine qjj (ln2 hu) ?_;intro u1 u2 eq_0_2;subst eq_0_2;refine qaj (ql7 hp h1 h2 h3 hx (l:=kn.zip ks) (fun q hq=>hn _ (Gp (a:=q.1) (b:=q.2) hq).1) (by simp;lia) [u1,u2]) ?_;intro k e1 _ e2;exact ⟨k,[u1,u2,d],e1,e2 d u1 u2 rfl,fun g h r=>.two r.one.1 (.two r.one.2.one.1 (.two rfl .none))⟩
end
section
structure FView where
  params:EE
  body:FuncBody
  scope:Scope
  globals:Addr
  closure:List (Str×Addr)
  defaults:Value
  kwdefaults:Value
  code:Value
  qualname:Str
  builtins:Addr
noncomputable def fnV:Data->Option FView
  | .func fd=>some ⟨fd.params,fd.body,fd.scope,fd.globals,fd.closure,fd.defaults,fd.kwdefaults,fd.code,fd.qualname,fd.builtins⟩
  | _=>none
noncomputable def qsf (o:Option Obj):Option FView:=o.bind fun o=>fnV o.data
noncomputable abbrev FView.fd (v:FView) (n:Str) (doc pm:Value) (an:Option Addr) (ct:Value):BS:=⟨n,v.qualname,v.params,v.body,v.scope,v.globals,v.closure,v.defaults,v.kwdefaults,doc,pm,an,v.code,ct,v.builtins⟩
theorem qpr {d:Data}{v:FView}(h:fnV d=some v):∃n doc pm an ct,d=.func (v.fd n doc pm an ct):=by
  cases d with
  | func fd=>
    obtain rfl:=Sj h;exact ⟨fd.name,fd.doc,fd.pyModule,fd.annotations,fd.closureTuple,rfl⟩
  | _=>exact nomatch h
theorem qis {o:Option Obj}{v:FView}(h:qsf o=some v):∃ob n doc pm an ct,o=some ob/\ob.data=.func (v.fd n doc pm an ct):=by
  cases o with
  | none=>exact nomatch h
  | some ob=>exact ⟨ob,(qpr h).imp fun n h=>h.imp fun doc h=>h.imp fun pm h=>h.imp fun an h=>h.imp fun ct h=>⟨rfl,h⟩⟩
noncomputable def qqx:Value->Nat
  | .bool _=>1
  | .int _ _=>2
  | .str _ _=>3
  | _=>0
theorem qvl {v:Value}(h:DF (qqx v) 1=true):∃b,v=.bool b:=by
  cases v with
  | bool b=>exact ⟨b,rfl⟩
  | _=>exact nomatch h
theorem qva {v:Value}(h:DF (qqx v) 2=true):∃i t,v=.int i t:=by
  cases v with
  | int i t=>exact ⟨i,t,rfl⟩
  | _=>exact nomatch h
theorem qvk {v:Value}(h:DF (qqx v) 3=true):∃s t,v=.str s t:=by
  cases v with
  | str s t=>exact ⟨s,t,rfl⟩
  | _=>exact nomatch h
noncomputable def qvc (q:Str) (v:Value):Bool:=Value.rec (motive:=fun _=>Bool) false false false (fun _=>false) (fun _ _=>false) (fun _ _=>false) (fun s _=>s==q) (fun _ _=>false) (fun _=>false) (fun _=>false) (fun _=>false) v
theorem qmk {q:Str}{v:Value}(h:qvc q v=true):∃t,v=.str q t:=by
  cases v with
  | str s t=>exact ⟨t,congrArg (Value.str · t) (CK h)⟩
  | _=>exact nomatch h
noncomputable def qvg (f:Array Value->Bool) (d:Data):Bool:=Data.rec (motive:=fun _=>Bool) false (fun _=>false) (fun _ _=>false) (fun _ _=>false) (fun _ _ _=>false) (fun _ _=>false) (fun _=>false) (fun _=>false) (fun _=>false) f false d
theorem qo3 {f:Array Value->Bool}{d:Data}(h:qvg f d=true):∃vs,d=.fields vs/\f vs=true:=by
  cases d with
  | fields vs=>exact ⟨vs,rfl,h⟩
  | _=>exact nomatch h
noncomputable def qvi (f:Array CY->Bool) (d:Data):Bool:=Data.rec (motive:=fun _=>Bool) false (fun _=>false) (fun _ _=>false) (fun es _=>f es) (fun _ _ _=>false) (fun _ _=>false) (fun _=>false) (fun _=>false) (fun _=>false) (fun _=>false) false d
theorem qoc {f:Array CY->Bool}{d:Data}(h:qvi f d=true):∃es n,d=.dict es n/\f es=true:=by
  cases d with
  | dict es n=>exact ⟨es,n,rfl,h⟩
  | _=>exact nomatch h
noncomputable def qv5 (c P:Addr) (q:Str) (vs:Array Value):Bool:=(vs[1]?).any (qvc q)&&(decide (vs[11]?=some (.ref P))&&(DF (qqx (vs.getD 18 .none)) 3&&(DF (qqx (vs.getD 7 .none)) 2&&(DF (qqx (vs.getD 9 .none)) 1&&(DF (qqx (vs.getD 10 .none)) 2 && !(DF c P))))))
noncomputable def qk7 (c P:Addr) (q:Str) (o:Option Obj):Bool:=o.any fun o=>decide (o.cls=.type "code")&&qvg (qv5 c P q) o.data
theorem qh0 {q:Str}(e:qk7 c P q (h.get? c)=true):(∃o vs t,h.get? c=some o/\o.data=.fields vs/\vs[1]?=some (.str q t))/\Gd h c P:=by
  obtain ⟨⟨cl,d,dt,sl⟩,hk,e⟩:=qeg e;obtain ⟨e0,e⟩:=ql8 e;obtain ⟨vs,rfl,e⟩:=qo3 e;obtain rfl:=of_decide_eq_true e0;obtain ⟨e1,e⟩:=ql8 e;obtain ⟨e2,e⟩:=ql8 e;obtain ⟨e3,e⟩:=ql8 e;obtain ⟨e4,e⟩:=ql8 e;obtain ⟨e5,e⟩:=ql8 e;obtain ⟨e6,e7⟩:=ql8 e;obtain ⟨v,h1,e1⟩:=qeg e1;obtain ⟨t,rfl⟩:=qmk e1;have h11:=of_decide_eq_true e2;obtain ⟨f,tf,h18⟩:=qvk e3;obtain ⟨fl,tg,h7⟩:=qva e4;obtain ⟨b,h9⟩:=qvl e5;obtain ⟨n,tt,h10⟩:=qva e6;have hne:c≠P:=fun z=>by rw[z,Nat.beq_refl] at e7;exact nomatch e7
  exact ⟨⟨_,vs,t,hk,rfl,h1⟩,_,vs,f,tf,fl,tg,b,n,tt,hk,rfl,rfl,h11,by rw[E7,h11];rfl,h18,h7,h9,h10,hne⟩
noncomputable def qki (l:List (Int×Str)) (o:Option Obj):Bool:=o.any fun o=>decide (o.cls=.type "dict")&&(o.dict.isNone&&(DF o.slots.size 0&&qvi (fun es=>qui es.toList l) o.data))
theorem qje {l:List (Int×Str)}(e:qki l (W.s1.heap.get? a)=true)(hs:(a==Cp)=false)(hn:(l.map (·.1)).Nodup):qja W a l:=by
  obtain ⟨⟨cl,d,dt,sl⟩,hk,e⟩:=qeg e;obtain ⟨e0,e⟩:=ql8 e;obtain ⟨e1,e⟩:=ql8 e;obtain ⟨e2,e⟩:=ql8 e;obtain ⟨es,n,rfl,e⟩:=qoc e;obtain rfl:=of_decide_eq_true e0;obtain rfl:=Option.isNone_iff_eq_none.mp e1;have h0:sl=#[]:=Array.eq_empty_of_size_eq_zero (Ez e2);subst h0;exact qpn hk hs ⟨rfl,rfl,rfl⟩ rfl e hn
structure qun where
  names:List (Option Value)
  fns:List (Option FView)
  objs:List (Option Obj)
  ok:Bool
noncomputable def qmq (ns:List (Str×Option Value)) (fs:List (Addr×FView)) (as:List Addr) (chk:Heap->Bool) (s:Al):qun:=
  ⟨ns.map fun p=>s.heap.nsMap Bk p.1,fs.map fun p=>qsf (s.heap.get? p.1),as.map s.heap.get?,chk s.heap⟩
noncomputable def qsu (ns:List (Str×Option Value)) (fs:List (Addr×FView)) (os:Params->List (Addr×Obj)) (w:World):qun:=
  ⟨ns.map (·.2),fs.map fun p=>some p.2,(os w.params).map fun p=>some p.2,true⟩
theorem qmp {ns:List (Str×Option Value)}{fs:List (Addr×FView)}{os:List (Addr×Obj)}{as:List Addr}{chk:Heap->Bool}(ha:as=os.map (·.1))(e:qmq ns fs as chk s=⟨ns.map (·.2),fs.map fun p=>some p.2,os.map fun p=>some p.2,true⟩):
    (∀(i:Nat) (x:Str) (v:Option Value),ns[i]?=some (x,v)->s.heap.nsMap Bk x=v)/\(∀(i:Nat) (a:Addr) (v:FView),fs[i]?=some (a,v)->qsf (s.heap.get? a)=some v)/\(∀(i:Nat) (a:Addr) (o:Obj),os[i]?=some (a,o)->s.heap.get? a=some o)/\chk s.heap=true:=by
  subst ha;unfold qmq at e;rw[Bv] at e;injection e with e1 e2 e3 e4
  exact ⟨fun i x v h=>FH.mp e1 _ (Aw h),fun i a v h=>FH.mp e2 _ (Aw h),fun i a o h=>FH.mp e3 _ (Aw h),e4⟩
theorem qlp (k:∀b o,h.get? b=some o->h'.get? b=some o)(x:∃o,h.get? a=some o)(n:Str):h'.nsMap a n=h.nsMap a n:=by
  refine Aq x ?_;intro o ho;unfold Heap.nsMap;rw[k a o ho,ho]
theorem qm3 (k:∀b o,h.get? b=some o->h'.get? b=some o){q:Str}(e:qk7 c P q (h.get? c)=true):qk7 c P q (h'.get? c)=true:=by
  cases ho:h.get? c with
  | none=>rw[ho] at e;cases e
  | some o=>rw[k c o ho,<- ho];exact e
noncomputable abbrev pN (x:Str) (a:Addr):Str×Option Value:=(x,some (.ref a))
noncomputable abbrev pZ (x:Str):Str×Option Value:=(x,none)
noncomputable abbrev pF (a:Addr) (v:FView):Addr×FView:=(a,v)
noncomputable abbrev pO (a:Addr) (o:Obj):Addr×Obj:=(a,o)
noncomputable abbrev pC (c P:Addr) (q:Str):Addr×Addr×Str:=(c,P,q)
noncomputable abbrev mkV (p:Dq) (i:Nat) (c:Addr) (q:Str) (dV kV:Value):FView:=⟨quf p i,.stmts (qbj p i),qam p i,Bk,[],dV,kV,.ref c,q,Bm⟩
theorem qd5 {p:Dq}{q:Str}{dV kV:Value}(hv:qsf (W.s1.heap.get? a)=some (mkV p i c q dV kV))(hc:qk7 c P q (W.s1.heap.get? c)=true)(hb:qbj p i=body)(hn:(qam p i).names=nm)(h1:(qam p i).isCoroutine=false)(h2:(qam p i).isGenerator=false)(h3:(qam p i).kind=.function)(nd:qif (nm.map (·.1))=true)(nf:(nm.all fun p=>qn9 p.2)=true):∃n doc pm an ct,∀Y,qqt ⟨W,Y,nm,.ref c⟩ a ((mkV p i c q dV kV).fd n doc pm an ct) body:=by
  refine qn4 (qis hv) ?_;intro o n doc pm an ct ho hd;refine AD ?_ (qh0 hc);intro ne_0_0 _;obtain ⟨oc,vs,t,k1,k2,k3⟩:=ne_0_0;exact ⟨n,doc,pm,an,ct,fun Y=>qtx (fd:=(mkV p i c q dV kV).fd n doc pm an ct) ho k1 hd rfl k2 k3 h1 h2 rfl rfl rfl h3 (congrArg FuncBody.stmts hb) hn nd nf Y⟩
theorem qjq {q:Str}(hc:qk7 c P q (W.s1.heap.get? c)=true)(hP:W.s1.heap.get? P=some (Em #[]))(ht:∀a,W.tab a↔(Eh W.s1.heap a/\W.s1.heap.get? a=some (Em #[])))(bm:∃bm ob,W.mg "__builtins__"=some (.ref bm)/\bm≠Bm/\W.s1.heap.get? bm=some ob/\ob.cls=.type "module"/\ob.dict=some Bm/\ob.data=.plain):qp0 W (.ref c):=by
  refine AD ?_ (qh0 hc);intro ne_0_0 C;obtain ⟨oc,vs,t,k1,k2,k3⟩:=ne_0_0;exact qtp rfl k1 k2 (by rw[k3];rfl) C ((ht P).mpr (qsq C hP)) bm
theorem qjf (k:∀b o,h.get? b=some o->h'.get? b=some o){l:List (Int×Str)}(e:qki l (h.get? a)=true):qki l (h'.get? a)=true:=by
  cases ho:h.get? a with
  | none=>rw[ho] at e;cases e
  | some o=>rw[k a o ho,<- ho];exact e
end
section
theorem room0:Room 100 [] callerA:=⟨rfl,by show 1+claimMargin+100<=600;decide +kernel,by decide,rfl⟩
theorem qpu {fa:Addr}{vals:List Value}{ns:List Int}{c:ClaimW}{cl:Str->Option Addr}{mean:ExcName->Option Value}{args:List WData}(hc:Calls W noY k [] [] (.glob (.ref fa)) [.lst (qa7 ns)] [] [] (.bool true) z')(hk:k<=100)(hg:W.s1.gens=#[])(ho:W.s1.heap.get? a=some { cls:=.type "list",data:=.seq vals.toArray })(hI:IntsAre vals ns)(ht:∀a,W.tab a↔(Eh W.s1.heap a/\W.s1.heap.get? a=some (Em #[])))(hr:∀cls,c.raises args cls=false)(hp:c.post args (.bool true) args=true)(E:Value->Al->Prop):
    wpAny (model W.prog W.w) callerA (call (.ref fa) [.ref a]) (fun v s'=>GoodWG c cl mean args W.s1 (.ok (.ret v)) s') E W.s1:=by
  have R:=qvm W a ho (by simp) hg;refine hc callerA (qox a) W.s1 (.ref fa) [.ref a] [] (room0.le hk) R rfl ⟨.ref a,[],rfl,⟨a,vals.toArray,0,rfl,by unfold qox;rw[if_pos rfl],ho,by simpa using qio hI⟩,rfl⟩ rfl _ _ fun v' g' s' R' e' rv=>?_
  obtain rfl:v'=.bool true:=rv;exact ⟨.inl ⟨_,_,[],rfl,hr,ReadsW.bool true,hp,fun _=>⟨List.nodup_nil,fun _ hm=>(nomatch hm)⟩⟩,qr2 R' (fun P q=>((ht P).mp q).1),R'.os,.of_eq R'.gens⟩
end
section
section
theorem Iea {i:Expr}{z:Str}{x:Int}{c:Nat}(he:Ev C k fr m σ e (.str z) z1)(hi:Ev C k fr m z1 i (.int x) z')(hc:(CN x z.length).bind (z.cps[·]?)=some c)(hb:(decide (x < -(2 ^ 63:Int))||decide (x>=2 ^ 63))=false)(hs:autoParam (∀o w,FB i false o w=operate [o,w] (GU o w)) ap0._auto_1):Ev C k fr m σ (.Subscript e i p) (.str ⟨#[c]⟩) z':=fun A env g s rm R F Q E hQ=>by
  refine PyProof.Rows.Subscript_ (he A env g s rm R F _ _ fun va g1 s1a R1 e1a ra=>hi A env g1 s1a rm R1 (F.up e1a) _ _ fun vi g2 s2 R2 e2a rx=>?_);obtain ⟨t,rfl⟩:=rx;obtain ⟨u,rfl⟩:=ra;exact FQ (typeIs_str _ _ _) PySem.F.slot_str_getitem.lookup (PySem.P.getItem_str hb hc (hQ _ _ _ (R2.tok _) (e1a.trans e2a) ⟨_,rfl⟩)) (hs _ _)
theorem Idh {f:Expr}{r:List Expr}(he:Ev C k fr m σ e (.bool false) z1):EvAnd C k fr m σ (e::f::r) (.bool false) z1:=fun A env g s p rm R F Q E hQ=>by
  rw[qau,qau];refine Aa (m:=eval e env) (he A env g s rm R F _ _ fun va g1 s1a R1 e1a ra=>?_);obtain rfl:va=.bool false:=ra;refine Aa (AP (Aa (AK (DG ?_))));exact Ag (hQ (.bool false) g1 s1a R1 e1a rfl)
theorem Idr {f:Expr}{a b:Bool}(he:Ev C k fr m σ e (.bool a) σ)(hf:Ev C k fr m σ f (.bool b) σ):Ev C k fr m σ (.BoolOp .And [e,f] p) (.bool (a&&b)) σ:=by
  cases a with
  | true=>exact Ibt (EvAnd.cons he (EvAnd.one hf))
  | false=>exact Ibt (Idh he)
end
end
section
section
theorem Id5 (hg:gens[0]?=some ⟨t,iter,[],0⟩)(hl:gens[0+1]?=none)(L:List AV)(S:Nat->List AObj)(Fv:Nat->AV)(M:Nat->List (Option AV))(hx:ai.items=L)(hO:∀j,ai.Ok (S j))(hp:ai.plain=true)(ht:ai.pairs=true->∃elts n p,t=.Tuple elts n p)(hA:∀j v,L[j]?=some v->As C k fr m (S j) t v (M j) (S j))(hE:∀j v,L[j]?=some v->Ev C k fr (M j) (S j) elt (Fv j) (S (j+1)))(hpl:∀j,j<L.length->plain (Fv j)=true)(hw:∀j,Weak (M j) m)(hz:L.length<=1000)(h0:S 0=σ)(h1:S L.length=z')(h2:(Ac L.length).map Fv=acc):
    CompC C k fr elt gens scope pos 0 ai 0 m σ [] m z' acc:=by
  subst h0 h1 h2;have hns:∀g',gens[0+1]?=some g'->g'.is_async=0:=fun g' h=>by rw[hl] at h;cases h
  have key:∀(r j:Nat),j+r=L.length->CompC C k fr elt gens scope pos 0 ai j m (S j) ((Ac j).map Fv) m (S L.length) ((Ac L.length).map Fv):=by
    intro r;induction r with
    | zero=>
      intro j hj;obtain rfl:j=L.length:=hj;exact CompC.done hg (hO _) (by rw[hx]) hns
    | succ r ih=>
      intro j hj;have hjl:j<L.length:=hj ▸ CA (C3 r);have hv:=Ad hjl;have next:=ih (j+1) ((Ct j r).trans hj);rw[C0,A0] at next;refine CompC.turn (b:=true) hg (hO j) hp (by rw[hx];exact hv) ht (hA j _ hv) Tests.nil (.inl ⟨rfl,Ibk hl (hE j _ hv) (hpl j hjl) ?_⟩) (next.pre (hw j)) hns;rw[Ab,AM,Ay];exact Af (Av hjl) (Af hz (by decide))
  exact key L.length 0 (Eo _)
end
end
section
noncomputable abbrev P3:Dq:=PySem.Challenge.pw_wb0045_02
noncomputable def nm1:PSigma (fun l=>(qam P3 1).names=l):=⟨_,by conv=>lhs;whnf⟩
noncomputable def bd1:PSigma (fun l=>qbj P3 1=l):=⟨_,by conv=>lhs;whnf⟩
noncomputable def nm2:PSigma (fun l=>(qam P3 2).names=l):=⟨_,by conv=>lhs;whnf⟩
noncomputable def bd2:PSigma (fun l=>qbj P3 2=l):=⟨_,by conv=>lhs;whnf⟩
noncomputable def nm3:PSigma (fun l=>(qam P3 3).names=l):=⟨_,by conv=>lhs;whnf⟩
noncomputable def bd3:PSigma (fun l=>qbj P3 3=l):=⟨_,by conv=>lhs;whnf⟩
noncomputable def nm4:PSigma (fun l=>(qam P3 4).names=l):=⟨_,by conv=>lhs;whnf⟩
noncomputable def bd4:PSigma (fun l=>qbj P3 4=l):=⟨_,by conv=>lhs;whnf⟩
noncomputable def nm7:PSigma (fun l=>(qam P3 7).names=l):=⟨_,by conv=>lhs;whnf⟩
noncomputable def bd7:PSigma (fun l=>qbj P3 7=l):=⟨_,by conv=>lhs;whnf⟩
noncomputable def nm8:PSigma (fun l=>(qam P3 8).names=l):=⟨_,by conv=>lhs;whnf⟩
noncomputable def bd8:PSigma (fun l=>qbj P3 8=l):=⟨_,by conv=>lhs;whnf⟩
noncomputable def nm10:PSigma (fun l=>(qam P3 10).names=l):=⟨_,by conv=>lhs;whnf⟩
noncomputable def bd10:PSigma (fun l=>qbj P3 10=l):=⟨_,by conv=>lhs;whnf⟩
noncomputable def nm11:PSigma (fun l=>(qam P3 11).names=l):=⟨_,by conv=>lhs;whnf⟩
noncomputable def bd11:PSigma (fun l=>qbj P3 11=l):=⟨_,by conv=>lhs;whnf⟩
noncomputable def nm13:PSigma (fun l=>(qam P3 13).names=l):=⟨_,by conv=>lhs;whnf⟩
noncomputable def bd13:PSigma (fun l=>qbj P3 13=l):=⟨_,by conv=>lhs;whnf⟩
noncomputable def nm14:PSigma (fun l=>(qam P3 14).names=l):=⟨_,by conv=>lhs;whnf⟩
noncomputable def bd14:PSigma (fun l=>qbj P3 14=l):=⟨_,by conv=>lhs;whnf⟩
noncomputable def nm15:PSigma (fun l=>(qam P3 15).names=l):=⟨_,by conv=>lhs;whnf⟩
noncomputable def bd15:PSigma (fun l=>qbj P3 15=l):=⟨_,by conv=>lhs;whnf⟩
noncomputable def nm16:PSigma (fun l=>(qam P3 16).names=l):=⟨_,by conv=>lhs;whnf⟩
noncomputable def bd16:PSigma (fun l=>qbj P3 16=l):=⟨_,by conv=>lhs;whnf⟩
noncomputable def nm17:PSigma (fun l=>(qam P3 17).names=l):=⟨_,by conv=>lhs;whnf⟩
noncomputable def bd17:PSigma (fun l=>qbj P3 17=l):=⟨_,by conv=>lhs;whnf⟩
noncomputable def nm18:PSigma (fun l=>(qam P3 18).names=l):=⟨_,by conv=>lhs;whnf⟩
noncomputable def bd18:PSigma (fun l=>qbj P3 18=l):=⟨_,by conv=>lhs;whnf⟩
noncomputable def nm19:PSigma (fun l=>(qam P3 19).names=l):=⟨_,by conv=>lhs;whnf⟩
noncomputable def bd19:PSigma (fun l=>qbj P3 19=l):=⟨_,by conv=>lhs;whnf⟩
noncomputable def nm20:PSigma (fun l=>(qam P3 20).names=l):=⟨_,by conv=>lhs;whnf⟩
noncomputable def bd20:PSigma (fun l=>qbj P3 20=l):=⟨_,by conv=>lhs;whnf⟩
noncomputable def nm21:PSigma (fun l=>(qam P3 21).names=l):=⟨_,by conv=>lhs;whnf⟩
noncomputable def bd21:PSigma (fun l=>qbj P3 21=l):=⟨_,by conv=>lhs;whnf⟩
noncomputable def nm22:PSigma (fun l=>(qam P3 22).names=l):=⟨_,by conv=>lhs;whnf⟩
noncomputable def bd22:PSigma (fun l=>qbj P3 22=l):=⟨_,by conv=>lhs;whnf⟩
noncomputable def flagTab:List (Int×Str):=[(1,"OPTIMIZED"),(2,"NEWLOCALS"),(4,"VARARGS"),(8,"VARKEYWORDS"),(16,"NESTED"),(32,"GENERATOR"),(64,"NOFREE"),(128,"COROUTINE"),(256,"ITERABLE_COROUTINE"),(512,"ASYNC_GENERATOR")]
noncomputable def A1:Addr:=23
noncomputable def A2:Addr:=32
noncomputable def A3:Addr:=41
noncomputable def A4:Addr:=50
noncomputable def A7:Addr:=58
noncomputable def A8:Addr:=65
noncomputable def A10:Addr:=72
noncomputable def A11:Addr:=81
noncomputable def A13:Addr:=86
noncomputable def A14:Addr:=93
noncomputable def A15:Addr:=98
noncomputable def A16:Addr:=103
noncomputable def A17:Addr:=110
noncomputable def A18:Addr:=115
noncomputable def A19:Addr:=122
noncomputable def A20:Addr:=127
noncomputable def A21:Addr:=132
noncomputable def A22:Addr:=137
noncomputable def qsr:Addr:=51
noncomputable def dA3:Value:=.ref 73
structure Fac (W:Wd):Prop where
  g_insort_right:W.mg "insort_right" = some (.ref A1)
  g_bisect_right:W.mg "bisect_right" = some (.ref A2)
  g_insort_left:W.mg "insort_left" = some (.ref A3)
  g_bisect_left:W.mg "bisect_left" = some (.ref A4)
  g_pretty_flags:W.mg "pretty_flags" = some (.ref A7)
  g_parse_varint:W.mg "_parse_varint" = some (.ref A8)
  g_iselement:W.mg "iselement" = some (.ref A10)
  g_SubElement:W.mg "SubElement" = some (.ref A11)
  g_law_digits:W.mg "_law_digits" = some (.ref A13)
  g_law_read:W.mg "_law_read" = some (.ref A14)
  g_law_words:W.mg "_law_words" = some (.ref A15)
  g_law_outline:W.mg "_law_outline" = some (.ref A16)
  g_law_element:W.mg "_law_element" = some (.ref A17)
  g_law_document:W.mg "_law_document" = some (.ref A18)
  g_law_end:W.mg "_law_end" = some (.ref A19)
  g_law_lies:W.mg "_law_lies" = some (.ref A20)
  g_law_left:W.mg "_law_left" = some (.ref A21)
  g_law:W.mg "law" = some (.ref A22)
  g_COMPILER_FLAG_NAMES:W.mg "COMPILER_FLAG_NAMES" = some (.ref qsr)
  tab:qja W qsr flagTab
  b_StopIteration:Blt W "StopIteration" (.type "StopIteration")
  b_ValueError:Blt W "ValueError" (.type "ValueError")
  b_enumerate:Blt W "enumerate" (.type "enumerate")
  b_hasattr:Blt W "hasattr" (.builtin "hasattr")
  b_hex:Blt W "hex" (.builtin "hex")
  b_iter:Blt W "iter" (.builtin "iter")
  b_len:Blt W "len" (.builtin "len")
  b_max:Blt W "max" (.builtin "max")
  b_min:Blt W "min" (.builtin "min")
  b_next:Blt W "next" (.builtin "next")
  b_range:Blt W "range" (.type "range")
  b_sorted:Blt W "sorted" (.builtin "sorted")
  b_str:Blt W "str" (.type "str")
  b_sum:Blt W "sum" (.builtin "sum")
  f2k2:∀(a x key:AV),FnB W NoK nm2.1 bd2.1 A2 [a,x] ["key"] [key] [some a,some x,some (.int 0),some .none,some key,none,none,none]
  f2k3:∀(a x lo key:AV),FnB W NoK nm2.1 bd2.1 A2 [a,x,lo] ["key"] [key] [some a,some x,some lo,some .none,some key,none,none,none]
  f2k4:∀(a x lo hi key:AV),FnB W NoK nm2.1 bd2.1 A2 [a,x,lo,hi] ["key"] [key] [some a,some x,some lo,some hi,some key,none,none,none]
  f2n4:∀(a x lo hi:AV),FnB W NoK nm2.1 bd2.1 A2 [a,x,lo,hi] [] [] [some a,some x,some lo,some hi,some .none,none,none,none]
  f2n2:∀(a x:AV),FnB W NoK nm2.1 bd2.1 A2 [a,x] [] [] [some a,some x,some (.int 0),some .none,some .none,none,none,none]
  f4k2:∀(a x key:AV),FnB W NoK nm4.1 bd4.1 A4 [a,x] ["key"] [key] [some a,some x,some (.int 0),some .none,some key,none,none,none]
  f4k3:∀(a x lo key:AV),FnB W NoK nm4.1 bd4.1 A4 [a,x,lo] ["key"] [key] [some a,some x,some lo,some .none,some key,none,none,none]
  f4k4:∀(a x lo hi key:AV),FnB W NoK nm4.1 bd4.1 A4 [a,x,lo,hi] ["key"] [key] [some a,some x,some lo,some hi,some key,none,none,none]
  f4n4:∀(a x lo hi:AV),FnB W NoK nm4.1 bd4.1 A4 [a,x,lo,hi] [] [] [some a,some x,some lo,some hi,some .none,none,none,none]
  f4n2:∀(a x:AV),FnB W NoK nm4.1 bd4.1 A4 [a,x] [] [] [some a,some x,some (.int 0),some .none,some .none,none,none,none]
  f1k2:∀(a x key:AV),FnB W NoK nm1.1 bd1.1 A1 [a,x] ["key"] [key] [some a,some x,some (.int 0),some .none,some key,none]
  f1k3:∀(a x lo key:AV),FnB W NoK nm1.1 bd1.1 A1 [a,x,lo] ["key"] [key] [some a,some x,some lo,some .none,some key,none]
  f1n2:∀(a x:AV),FnB W NoK nm1.1 bd1.1 A1 [a,x] [] [] [some a,some x,some (.int 0),some .none,some .none,none]
  f1n4:∀(a x lo hi:AV),FnB W NoK nm1.1 bd1.1 A1 [a,x,lo,hi] [] [] [some a,some x,some lo,some hi,some .none,none]
  f3k2:∀(a x key:AV),FnB W NoK nm3.1 bd3.1 A3 [a,x] ["key"] [key] [some a,some x,some (.int 0),some .none,some key,none]
  f3k3:∀(a x lo key:AV),FnB W NoK nm3.1 bd3.1 A3 [a,x,lo] ["key"] [key] [some a,some x,some lo,some .none,some key,none]
  f3n2:∀(a x:AV),FnB W NoK nm3.1 bd3.1 A3 [a,x] [] [] [some a,some x,some (.int 0),some .none,some .none,none]
  f3n4:∀(a x lo hi:AV),FnB W NoK nm3.1 bd3.1 A3 [a,x,lo,hi] [] [] [some a,some x,some lo,some hi,some .none,none]
  f11t:∀(p tag t:AV) (kn:List Str) (kv:List AV),kn.Nodup->kn.length=kv.length->plains kv=true->(∀x∈kn,x∉(["parent","tag","attrib"]:List Str))->kn.length<=Ai->FnX W nm11.1 bd11.1 A11 [p,tag,t] kn kv (fun n=>[some p,some tag,some t,some (.loc n),none])
  dsrc:∀σ:List AObj,Dsrc W σ (.glob dA3) [] []
  f11d:∀(p tag:AV) (kn:List Str) (kv:List AV),kn.Nodup->kn.length=kv.length->plains kv=true->(∀x∈kn,x∉(["parent","tag","attrib"]:List Str))->kn.length<=Ai->FnX W nm11.1 bd11.1 A11 [p,tag] kn kv (fun n=>[some p,some tag,some (.glob dA3),some (.loc n),none])
  f7:∀(v0:AV),FnB W NoK nm7.1 bd7.1 A7 [v0] [] [] [some v0,none,none,none,none,none,none]
  f8:∀(v0:AV),FnB W NoK nm8.1 bd8.1 A8 [v0] [] [] [some v0,none,none,none]
  f10:∀(v0:AV),FnB W NoK nm10.1 bd10.1 A10 [v0] [] [] [some v0,none]
  f13:∀(v0 v1:AV),plain v0=true->plain v1=true->FnB W NoK nm13.1 bd13.1 A13 [v0,v1] [] [] [some v0,some v1,none]
  f14:∀(v0 v1:AV),FnB W NoK nm14.1 bd14.1 A14 [v0,v1] [] [] [some v0,some v1,none,none,none,none]
  f15:∀(v0:AV),plain v0=true->FnB W NoK nm15.1 bd15.1 A15 [v0] [] [] [some v0,none,none]
  f16:∀(v0:AV),FnB W NoK nm16.1 bd16.1 A16 [v0] [] [] [some v0,none,none,none,none,none,none,none,none]
  f17:∀(v0 v1:AV),FnB W (qp0 W) nm17.1 bd17.1 A17 [v0,v1] [] [] [some v0,some v1,none,none]
  f18:∀(v0 v1:AV),FnB W (qp0 W) nm18.1 bd18.1 A18 [v0,v1] [] [] [some v0,some v1,none,none,none,none,none,none,none,none,none,none,none,none,none,none,none,none,none]
  f19:∀(v0:AV),FnB W NoK nm19.1 bd19.1 A19 [v0] [] [] [some v0]
  f20:∀(v0 v1 v2:AV),plain v0=true->plain v1=true->plain v2=true->FnB W NoK nm20.1 bd20.1 A20 [v0,v1,v2] [] [] [some v0,some v1,some v2,none,none,none,none,none,none,none,none,none,none,none,none,none,none,none]
  f21:∀(v0 v1:AV),plain v0=true->plain v1=true->FnB W NoK nm21.1 bd21.1 A21 [v0,v1] [] [] [some v0,some v1,none,none,none,none,none,none,none,none,none]
  f22:∀(v0:AV),plain v0=true->FnB W (qp0 W) nm22.1 bd22.1 A22 [v0] [] [] [some v0,none,none,none,none,none,none,none,none,none,none,none,none,none,none,none,none,none,none,none,none,none,none,none,none,none,none,none,none,none,none,none,none,none,none,none,none,none,none,none,none,none,none]
end
section
section
theorem Ia0 (i : Nat)(hi:autoParam (C.nm[i]? = some (x, .local)) ap0._auto_1)(hv:autoParam (m[i]? = some (some v)) ap0._auto_1)(hd:autoParam ((x==("__debug__" : Str)) = false) ap1._auto_1): Ev C k fr m σ (.Name x p) v σ := Ibh hi hv hd
theorem Iad (i : Nat)(hi:autoParam (C.nm[i]? = some (x, kd)) ap0._auto_1)(hk:autoParam (kcl kd = 1) ap0._auto_1)(hv:autoParam (m[i]? = some (some v)) ap0._auto_1)(hd:autoParam ((x==("__debug__" : Str)) = false) ap1._auto_1)(hn:autoParam ((x==("__classdict__" : Str)) = false) ap1._auto_1): Ev C k fr m σ (.Name x p) v σ := Ie3 hi hk hv hd hn
theorem Iac (i : Nat){v:Value}(hv : C.W.mg x = some v)(hi:autoParam (C.nm[i]? = some (x, .globalImplicit)) ap0._auto_1)(hd:autoParam ((x==("__debug__" : Str)) = false) ap1._auto_1): Ev C k fr m σ (.Name x p) (.glob v) σ := Ie1 hi hv hd
theorem Iah (i : Nat){v:Value}(h : Blt C.W x v)(hi:autoParam (C.nm[i]? = some (x, .globalImplicit)) ap0._auto_1)(hd:autoParam ((x==("__debug__" : Str)) = false) ap1._auto_1): Ev C k fr m σ (.Name x p) (.glob v) σ := Ief hi h hd
theorem Ia4 (i : Nat)(hi:autoParam (C.nm[i]? = some (x, .local)) ap0._auto_1)(hp:autoParam (plain av = true) ap0._auto_1): As C k fr m σ (.Name x p) av (m.set i (some av)) σ := Ibz hi hp
theorem Ic4 (i : Nat)(hi:autoParam (C.nm[i]? = some (x, .cell)) ap0._auto_1)(hp:autoParam (plain av = true) ap0._auto_1): As C k fr m σ (.Name x p) av (m.set i (some av)) σ := Idc hi hp
end
theorem Uu {p:Prop}(h:autoParam (p) ap0._auto_1):p:=h
local macro_rules | `(.($t:term)) => if t.raw.isOfKind ``Lean.Parser.Term.hole || t.raw.getKind == `MVarWithIdKind then Lean.Macro.throwUnsupported else `((by with_reducible exact $t))
section
theorem qk3 {n w h:Int}{t:List Int}(ht:qck n w=h::t)(hz:(h::t).length<=6):Exs ⟨W,Y,nm13.1,cd⟩ k fr [some (.int n),some (.int w),none] σ bd13.1 (.ret (.lst (qa7 ((h+128)::t)))) ([some (.int n),some (.int w),none].set 2 (some (.lst (qa7 (h::t))))) σ:=by
  show Exs ⟨W,Y,nm13.1,cd⟩ k fr _ σ (_::_) _ _ σ;have pw:∀x:Int,x∈([5,4,3,2,1]:List Int)->((64:Int) ^ x.toNat≠0/\((64:Int) ^ x.toNat).natAbs<2 ^ 64)/\0<=x/\x<=1000000:=by
    intro x hx;simp at hx;rcases hx with rfl | rfl | rfl | rfl | rfl <;> decide
  have e1:AV.lst (GI (fun k=>AV.int ((n.fdiv (64 ^ k.toNat)).fmod 64+64)) (List.filter (fun k:Int=>w==1||decide (64 ^ k.toNat<=n)) [5,4,3,2,1])++[.int (n.fmod 64)])=.lst (qa7 (h::t)):=by
    rw[<- ht,qck,qa7,A0,Bv];rfl
  have hl:(qa7 (h::t)).length<=6:=by rw[qa7,Ab];exact hz
  have hz1:(GI (fun k=>AV.int ((n.fdiv (64 ^ k.toNat)).fmod 64+64)) (List.filter (fun k:Int=>w==1||decide (64 ^ k.toNat<=n)) [5,4,3,2,1])).length+[AV.int (n.fmod 64)].length<=Ai:=by
    rw[Ab,Ay];have:=Bu (fun k:Int=>w==1||decide (64 ^ k.toNat<=n)) [5,4,3,2,1];simp at this ⊢;lia
  have hz2:[AV.int (h+128)].length+(qbq (qa7 (h::t)) (some 1) none none).length<=Ai:=by
    rw[show qbq (qa7 (h::t)) (some 1) none none=qa7 t from qe6 _ 1,Ay,qa7,Ab];simp at hz ⊢;lia
  have e2:AV.lst ([AV.int (h+128)]++qbq (qa7 (h::t)) (some 1) none none)=.lst (qa7 ((h+128)::t)):=by
    rw[show qbq (qa7 (h::t)) (some 1) none none=qa7 t from qe6 _ 1];rfl
  have hs1:(qa7 (h::t)).length<=Ai:=by rw[Ay];lia
  have hs2:qbq (qa7 (h::t)) (some 1) none none=qa7 t:=qe6 _ 1;exact .(Exs.cons .(Ia5 .(Iag .(Ia2 .(Iak .(ItE.tuple .(Ev.tuple (Evs.cons .(Ia1) .((Evs.cons .(Ia1) .((Evs.cons .(Ia1) .((Evs.cons .(Ia1) .((Evs.cons .(Ia1) .(Evs.nil)))))))))))) (CompIn.of [none,none,some 0,some 1] (by kernel_rfl) (by kernel_rfl)) .(Iaq Uu ([5,4,3,2,1]) (AV.int) ((fun k=>w==1||decide (64 ^ k.toNat<=n))) ((fun k=>AV.int ((n.fdiv (64 ^ k.toNat)).fmod 64+64))) _ (fun x hx=>.(Ia4 1)) (fun x hx=>.(Ibb .(Ibe .(Ia3 .(Iad 3) .(Ia1) .(Ib2)) (fun _=>.(Ibj .(Ia3 .(Iad 2) .(Ia2 .(Ia1) .(Ia0 1) (Ic7 (pw x hx).2.1 (pw x hx).2.2 (by decide))) .(Op2.ge)))) (fun _=>rfl)))) (fun x hx hp=>.(Ia2 .(Ia2 .(Ia2 .(Iad 2) .(Ia2 .(Ia1) .(Ia0 1) (Ic7 (pw x hx).2.1 (pw x hx).2.2 (by decide))) (Iar (pw x hx).1.1 (pw x hx).1.2)) .(Ia1) .(Iaw (by decide))) .(Ia1) .(Iai))) .(fun _=>Weak.set Uu))) .(Ev.list (Evs.cons .(Ia2 .(Iad 0) .(Ia1) .(Iaw (by decide))) .(Evs.nil))) (Icl Lv.fz Lv.fz hz1)) (e1)) .(Ia4 2 (hp:=.(qdn _)))) .(Exs.ret .(Iaj .(Iag .(Ia2 .(Ev.list (Evs.cons .(Ia2 .(Ia9 .(Ia0 2) .(Ia1) .(Lv.fz) (by exact qbc (j:=0) rfl rfl) (by exact hs1)) .(Ia1) .(Iai)) .(Evs.nil))) .(Iaz .(Ia0 2) (Iao .(Ia1)) EvO.none EvO.none Lv.fz (by simp) hs1) (Icl Lv.fz Lv.fz hz2)) (e2)))))
end
section
theorem qfh {P:S->Prop}{te:Expr}{bo:List Stmt}{M:Nat->Nat->List (Option AV)}(ht:∀(Y:Nat->Prop) (cd:Value) (k:Nat) (fr:List Env) (σ:List AObj) (lo hi:Nat),Tr ⟨W,Y,nm,cd⟩ (k+d) fr (M lo hi) σ te (decide ((lo:Int)<(hi:Int))) σ)(step:∀(lo hi mid:Nat) (s:S),P s->lo0<=lo->hi<=hi0->lo<=mid->mid<hi->(lo+hi) / 2=mid->∃s',P s'/\∀(Y:Nat->Prop) (cd:Value) (k:Nat) (fr:List Env),(∀n,Yk n->Y n)->Exs ⟨W,Y,nm,cd⟩ (k+d) fr (M lo hi) (sg s) bo .next (if r<=mid then M lo mid else M (mid+1) hi) (sg s')):
    ∀(n lo hi:Nat) (s:S),hi<=lo+n->lo<=r->r<=hi->lo0<=lo->hi<=hi0->P s->∃s',P s'/\∀(Y:Nat->Prop) (cd:Value) (k:Nat) (fr:List Env),(∀n,Yk n->Y n)->WhileC ⟨W,Y,nm,cd⟩ (k+d) fr te bo [] (M lo hi) (sg s) .next (M r r) (sg s'):=by
  intro n;induction n with
  | zero=>
    intro lo hi s h1 h2 h3 h4 h5 hs;obtain rfl:lo=r:=BG h2 (Af h3 h1);obtain rfl:hi=lo:=BG h1 h3;exact ⟨s,hs,fun Y cd k fr _=>Ibq (Iaa (ht Y cd k fr (sg s) hi hi) (decide_eq_false (DW _))) Exs.nil⟩
  | succ n ih=>
    intro lo hi s h1 h2 h3 h4 h5 hs;rcases AT lo hi with hlt | hge
    . have hm1:lo<=(lo+hi) / 2:=by lia
      have hm2:(lo+hi) / 2<hi:=by lia
      refine qa5 (step lo hi _ s hs h4 h5 hm1 hm2 rfl) ?_;intro s1 hs1 hw;generalize (lo+hi) / 2=mid at hm1 hm2 hw;have T:=fun Y cd k fr=>Iaa (ht Y cd k fr (sg s) lo hi) (decide_eq_true (CF.mpr hlt))
      by_cases hm:r<=mid
      . rw[if_pos hm] at hw;exact (ih lo mid s1 (AH (Ah hm2 h1)) h2 hm h4 (Av (Ah hm2 h5)) hs1).imp fun s2 q=>⟨q.1,fun Y cd k fr hY=>WhileC.next (T Y cd k fr) (hw Y cd k fr hY) (q.2 Y cd k fr hY)⟩
      . rw[if_neg hm] at hw;exact (ih (mid+1) hi s1 (by lia) (Bn.mp hm) h3 (Af h4 (C4 hm1)) h5 hs1).imp fun s2 q=>⟨q.1,fun Y cd k fr hY=>WhileC.next (T Y cd k fr) (hw Y cd k fr hY) (q.2 Y cd k fr hY)⟩
    . obtain rfl:lo=r:=BG h2 (Af h3 hge);obtain rfl:hi=lo:=BG hge h3;exact ⟨s,hs,fun Y cd k fr _=>Ibq (Iaa (ht Y cd k fr (sg s) hi hi) (decide_eq_false (DW _))) Exs.nil⟩
theorem quk {m:Nat}:AV.int ((m:Int)+1)=.int ((m+1:Nat):Int):=rfl
theorem qqj {lo mid:Nat}(h:(lo+hi) / 2=mid):AV.int (((lo:Int)+(hi:Int)).fdiv 2)=.int ((mid:Nat):Int):=by rw[<- h];exact qt5
noncomputable def teRK:PSigma (fun l=>(qjd (nth (qo8 (nth bd2.1 2)) 0))=l):=⟨_,by conv=>lhs;whnf⟩
noncomputable def boRK:PSigma (fun l=>(qbp (nth (qo8 (nth bd2.1 2)) 0))=l):=⟨_,by conv=>lhs;whnf⟩
theorem qm7 {P:S->Prop}{a:AV}{x:Int}(hL:∀s,P s->Lv (sg s) a l)(hz:l.length<=Ai)(hkp:Kept W key)(hkey:∀(j:Nat) (v:AV),l[j]?=some v->KeyFn W d Yk sg P key v (κ j))(hhi:hi0<=l.length)(hr:∀j:Nat,lo0<=j->j<hi0->(x<κ j↔r<=j))(lo hi mid:Nat)(s:S)(hs:P s)(h4:lo0<=lo)(h5:hi<=hi0)(h1:lo<=mid)(h2:mid<hi)(hmid:(lo+hi) / 2=mid):
    ∃s',P s'/\∀(Y:Nat->Prop) (cd:Value) (k:Nat) (fr:List Env),(∀n,Yk n->Y n)->Exs ⟨W,Y,nm2.1,cd⟩ (k+d) fr [some a,some (.int x),some (.int ((lo:Nat):Int)),some (.int ((hi:Nat):Int)),some key,none,none,none] (sg s) boRK.1 .next (if r<=mid then [some a,some (.int x),some (.int ((lo:Nat):Int)),some (.int ((mid:Nat):Int)),some key,none,none,none] else [some a,some (.int x),some (.int ((mid+1:Nat):Int)),some (.int ((hi:Nat):Int)),some key,none,none,none]) (sg s'):=by
  obtain ⟨v,hv⟩:∃v,l[mid]?=some v:=⟨_,Ad (Ah h2 (Af h5 hhi))⟩
  refine qa5 (hkey mid v hv s hs) ?_;intro s1 hs1 hc;refine ⟨s1,hs1,fun Y cd k fr hY=>?_⟩;by_cases hm:r<=mid
  . have hd:decide (x<κ mid)=true:=decide_eq_true ((hr mid (Af h4 h1) (Ah h2 h5)).mpr hm);rw[if_pos hm];refine Exs.post (m2:=(([some a,some (.int x),some (.int ((lo:Nat):Int)),some (.int ((hi:Nat):Int)),some key,none,none,none].set 5 (some (.int ((mid:Nat):Int)))).set 3 (some (.int ((mid:Nat):Int))))) ?_ (by with_unfolding_all exact Ia6 224);show Exs _ _ _ _ _ (_::_) _ _ _;exact .(Exs.cons .(Ia5 .(Iag .(Ia2 .(Ia2 .(Ia0 2) .(Ia0 3) .(Iai)) .(Ia1) (Iar (by decide) (by decide))) (qqj hmid)) .(Ia4 5)) .(Exs.cons .(Ia7 (c:=true) .(Iaa .(Ia3 .(Ia0 1) .(Ev.call .(Ia0 4) (hkp) (Evs.cons .(Ia9 .(Ia0 0) .(Ia0 5) (by exact hL s hs) (by exact qbc (x:=((mid:Nat):Int)) rfl hv) (by exact hz)) .(Evs.nil)) EvK.nil (hc k fr Y hY)) .(Op2.lt)) hd) (fun _=>.(Exs.cons .(Ia5 .(Ia0 5) .(Ia4 3)) .(Exs.nil))) (fun h=>nomatch h)) .(Exs.nil)))
  . have hd:decide (x<κ mid)=false:=decide_eq_false fun q=>hm ((hr mid (Af h4 h1) (Ah h2 h5)).mp q)
    rw[if_neg hm];refine Exs.post (m2:=(([some a,some (.int x),some (.int ((lo:Nat):Int)),some (.int ((hi:Nat):Int)),some key,none,none,none].set 5 (some (.int ((mid:Nat):Int)))).set 2 (some (.int ((mid+1:Nat):Int))))) ?_ (by with_unfolding_all exact Ia6 224);show Exs _ _ _ _ _ (_::_) _ _ _;exact .(Exs.cons .(Ia5 .(Iag .(Ia2 .(Ia2 .(Ia0 2) .(Ia0 3) .(Iai)) .(Ia1) (Iar (by decide) (by decide))) (qqj hmid)) .(Ia4 5)) .(Exs.cons .(Ia7 (c:=false) .(Iaa .(Ia3 .(Ia0 1) .(Ev.call .(Ia0 4) (hkp) (Evs.cons .(Ia9 .(Ia0 0) .(Ia0 5) (by exact hL s hs) (by exact qbc (x:=((mid:Nat):Int)) rfl hv) (by exact hz)) .(Evs.nil)) EvK.nil (hc k fr Y hY)) .(Op2.lt)) hd) (fun h=>nomatch h) (fun _=>.(Exs.cons .(Ia5 .(Iag .(Ia2 .(Ia0 5) .(Ia1) .(Iai)) (quk)) .(Ia4 2)) .(Exs.nil)))) .(Exs.nil)))
theorem qsm {a x y:AV}{lo hi:Int}:Tr ⟨W,Y,nm2.1,cd⟩ k fr [some a,some x,some (.int lo),some (.int hi),some key,none,none,none] σ teRK.1 (decide (lo<hi)) σ:=by
  show Tr _ _ _ _ _ (.Compare _ _ _ _) _ _;exact .(Ia3 .(Ia0 2) .(Ia0 3) .(Op2.lt))
noncomputable def teRN:PSigma (fun l=>(qjd (nth (qbp (nth bd2.1 2)) 0))=l):=⟨_,by conv=>lhs;whnf⟩
noncomputable def boRN:PSigma (fun l=>(qbp (nth (qbp (nth bd2.1 2)) 0))=l):=⟨_,by conv=>lhs;whnf⟩
theorem qm6 {P:S->Prop}{a:AV}{x:Int}(hL:∀s,P s->Lv (sg s) a l)(hz:l.length<=Ai)(hval:∀(j:Nat),lo0<=j->j<hi0->l[j]?=some (.int (κ j)))(hr:∀j:Nat,lo0<=j->j<hi0->(x<κ j↔r<=j))(lo hi mid:Nat)(s:S)(hs:P s)(h4:lo0<=lo)(h5:hi<=hi0)(h1:lo<=mid)(h2:mid<hi)(hmid:(lo+hi) / 2=mid):
    ∃s',P s'/\∀(Y:Nat->Prop) (cd:Value) (k:Nat) (fr:List Env),(∀n,Yk n->Y n)->Exs ⟨W,Y,nm2.1,cd⟩ (k+d) fr [some a,some (.int x),some (.int ((lo:Nat):Int)),some (.int ((hi:Nat):Int)),some .none,none,none,none] (sg s) boRN.1 .next (if r<=mid then [some a,some (.int x),some (.int ((lo:Nat):Int)),some (.int ((mid:Nat):Int)),some .none,none,none,none] else [some a,some (.int x),some (.int ((mid+1:Nat):Int)),some (.int ((hi:Nat):Int)),some .none,none,none,none]) (sg s'):=by
  have hv:=hval mid (Af h4 h1) (Ah h2 h5);refine ⟨s,hs,fun Y cd k fr hY=>?_⟩;by_cases hm:r<=mid
  . have hd:decide (x<κ mid)=true:=decide_eq_true ((hr mid (Af h4 h1) (Ah h2 h5)).mpr hm);rw[if_pos hm];refine Exs.post (m2:=(([some a,some (.int x),some (.int ((lo:Nat):Int)),some (.int ((hi:Nat):Int)),some .none,none,none,none].set 5 (some (.int ((mid:Nat):Int)))).set 3 (some (.int ((mid:Nat):Int))))) ?_ (by with_unfolding_all exact Ia6 224);show Exs _ _ _ _ _ (_::_) _ _ _;exact .(Exs.cons .(Ia5 .(Iag .(Ia2 .(Ia2 .(Ia0 2) .(Ia0 3) .(Iai)) .(Ia1) (Iar (by decide) (by decide))) (qqj hmid)) .(Ia4 5)) .(Exs.cons .(Ia7 (c:=true) .(Iaa .(Ia3 .(Ia0 1) .(Ia9 .(Ia0 0) .(Ia0 5) (by exact hL s hs) (by exact qbc (x:=((mid:Nat):Int)) rfl hv) (by exact hz)) .(Op2.lt)) hd) (fun _=>.(Exs.cons .(Ia5 .(Ia0 5) .(Ia4 3)) .(Exs.nil))) (fun h=>nomatch h)) .(Exs.nil)))
  . have hd:decide (x<κ mid)=false:=decide_eq_false fun q=>hm ((hr mid (Af h4 h1) (Ah h2 h5)).mp q)
    rw[if_neg hm];refine Exs.post (m2:=(([some a,some (.int x),some (.int ((lo:Nat):Int)),some (.int ((hi:Nat):Int)),some .none,none,none,none].set 5 (some (.int ((mid:Nat):Int)))).set 2 (some (.int ((mid+1:Nat):Int))))) ?_ (by with_unfolding_all exact Ia6 224);show Exs _ _ _ _ _ (_::_) _ _ _;exact .(Exs.cons .(Ia5 .(Iag .(Ia2 .(Ia2 .(Ia0 2) .(Ia0 3) .(Iai)) .(Ia1) (Iar (by decide) (by decide))) (qqj hmid)) .(Ia4 5)) .(Exs.cons .(Ia7 (c:=false) .(Iaa .(Ia3 .(Ia0 1) .(Ia9 .(Ia0 0) .(Ia0 5) (by exact hL s hs) (by exact qbc (x:=((mid:Nat):Int)) rfl hv) (by exact hz)) .(Op2.lt)) hd) (fun h=>nomatch h) (fun _=>.(Exs.cons .(Ia5 .(Iag .(Ia2 .(Ia0 5) .(Ia1) .(Iai)) (quk)) .(Ia4 2)) .(Exs.nil)))) .(Exs.nil)))
theorem qsl {a x y:AV}{lo hi:Int}:Tr ⟨W,Y,nm2.1,cd⟩ k fr [some a,some x,some (.int lo),some (.int hi),some key,none,none,none] σ teRN.1 (decide (lo<hi)) σ:=by
  show Tr _ _ _ _ _ (.Compare _ _ _ _) _ _;exact .(Ia3 .(Ia0 2) .(Ia0 3) .(Op2.lt))
noncomputable def teLK:PSigma (fun l=>(qjd (nth (qo8 (nth bd4.1 2)) 0))=l):=⟨_,by conv=>lhs;whnf⟩
noncomputable def boLK:PSigma (fun l=>(qbp (nth (qo8 (nth bd4.1 2)) 0))=l):=⟨_,by conv=>lhs;whnf⟩
theorem qm9 {P:S->Prop}{a:AV}{x:Int}(hL:∀s,P s->Lv (sg s) a l)(hz:l.length<=Ai)(hkp:Kept W key)(hkey:∀(j:Nat) (v:AV),l[j]?=some v->KeyFn W d Yk sg P key v (κ j))(hhi:hi0<=l.length)(hr:∀j:Nat,lo0<=j->j<hi0->(κ j<x↔j<r))(lo hi mid:Nat)(s:S)(hs:P s)(h4:lo0<=lo)(h5:hi<=hi0)(h1:lo<=mid)(h2:mid<hi)(hmid:(lo+hi) / 2=mid):
    ∃s',P s'/\∀(Y:Nat->Prop) (cd:Value) (k:Nat) (fr:List Env),(∀n,Yk n->Y n)->Exs ⟨W,Y,nm4.1,cd⟩ (k+d) fr [some a,some (.int x),some (.int ((lo:Nat):Int)),some (.int ((hi:Nat):Int)),some key,none,none,none] (sg s) boLK.1 .next (if r<=mid then [some a,some (.int x),some (.int ((lo:Nat):Int)),some (.int ((mid:Nat):Int)),some key,none,none,none] else [some a,some (.int x),some (.int ((mid+1:Nat):Int)),some (.int ((hi:Nat):Int)),some key,none,none,none]) (sg s'):=by
  obtain ⟨v,hv⟩:∃v,l[mid]?=some v:=⟨_,Ad (Ah h2 (Af h5 hhi))⟩
  refine qa5 (hkey mid v hv s hs) ?_;intro s1 hs1 hc;refine ⟨s1,hs1,fun Y cd k fr hY=>?_⟩;by_cases hm:r<=mid
  . have hd:decide (κ mid<x)=false:=decide_eq_false fun q=>absurd ((hr mid (Af h4 h1) (Ah h2 h5)).mp q) (Be.mpr hm)
    rw[if_pos hm];refine Exs.post (m2:=(([some a,some (.int x),some (.int ((lo:Nat):Int)),some (.int ((hi:Nat):Int)),some key,none,none,none].set 5 (some (.int ((mid:Nat):Int)))).set 3 (some (.int ((mid:Nat):Int))))) ?_ (by with_unfolding_all exact Ia6 224);show Exs _ _ _ _ _ (_::_) _ _ _;exact .(Exs.cons .(Ia5 .(Iag .(Ia2 .(Ia2 .(Ia0 2) .(Ia0 3) .(Iai)) .(Ia1) (Iar (by decide) (by decide))) (qqj hmid)) .(Ia4 5)) .(Exs.cons .(Ia7 (c:=false) .(Iaa .(Ia3 .(Ev.call .(Ia0 4) (hkp) (Evs.cons .(Ia9 .(Ia0 0) .(Ia0 5) (by exact hL s hs) (by exact qbc (x:=((mid:Nat):Int)) rfl hv) (by exact hz)) .(Evs.nil)) EvK.nil (hc k fr Y hY)) .(Ia0 1) .(Op2.lt)) hd) (fun h=>nomatch h) (fun _=>.(Exs.cons .(Ia5 .(Ia0 5) .(Ia4 3)) .(Exs.nil)))) .(Exs.nil)))
  . have hd:decide (κ mid<x)=true:=decide_eq_true ((hr mid (Af h4 h1) (Ah h2 h5)).mpr (Bn.mp hm));rw[if_neg hm];refine Exs.post (m2:=(([some a,some (.int x),some (.int ((lo:Nat):Int)),some (.int ((hi:Nat):Int)),some key,none,none,none].set 5 (some (.int ((mid:Nat):Int)))).set 2 (some (.int ((mid+1:Nat):Int))))) ?_ (by with_unfolding_all exact Ia6 224);show Exs _ _ _ _ _ (_::_) _ _ _;exact .(Exs.cons .(Ia5 .(Iag .(Ia2 .(Ia2 .(Ia0 2) .(Ia0 3) .(Iai)) .(Ia1) (Iar (by decide) (by decide))) (qqj hmid)) .(Ia4 5)) .(Exs.cons .(Ia7 (c:=true) .(Iaa .(Ia3 .(Ev.call .(Ia0 4) (hkp) (Evs.cons .(Ia9 .(Ia0 0) .(Ia0 5) (by exact hL s hs) (by exact qbc (x:=((mid:Nat):Int)) rfl hv) (by exact hz)) .(Evs.nil)) EvK.nil (hc k fr Y hY)) .(Ia0 1) .(Op2.lt)) hd) (fun _=>.(Exs.cons .(Ia5 .(Iag .(Ia2 .(Ia0 5) .(Ia1) .(Iai)) (quk)) .(Ia4 2)) .(Exs.nil))) (fun h=>nomatch h)) .(Exs.nil)))
theorem qso {a x y:AV}{lo hi:Int}:Tr ⟨W,Y,nm4.1,cd⟩ k fr [some a,some x,some (.int lo),some (.int hi),some key,none,none,none] σ teLK.1 (decide (lo<hi)) σ:=by
  show Tr _ _ _ _ _ (.Compare _ _ _ _) _ _;exact .(Ia3 .(Ia0 2) .(Ia0 3) .(Op2.lt))
noncomputable def teLN:PSigma (fun l=>(qjd (nth (qbp (nth bd4.1 2)) 0))=l):=⟨_,by conv=>lhs;whnf⟩
noncomputable def boLN:PSigma (fun l=>(qbp (nth (qbp (nth bd4.1 2)) 0))=l):=⟨_,by conv=>lhs;whnf⟩
theorem qm8 {P:S->Prop}{a:AV}{x:Int}(hL:∀s,P s->Lv (sg s) a l)(hz:l.length<=Ai)(hval:∀(j:Nat),lo0<=j->j<hi0->l[j]?=some (.int (κ j)))(hr:∀j:Nat,lo0<=j->j<hi0->(κ j<x↔j<r))(lo hi mid:Nat)(s:S)(hs:P s)(h4:lo0<=lo)(h5:hi<=hi0)(h1:lo<=mid)(h2:mid<hi)(hmid:(lo+hi) / 2=mid):
    ∃s',P s'/\∀(Y:Nat->Prop) (cd:Value) (k:Nat) (fr:List Env),(∀n,Yk n->Y n)->Exs ⟨W,Y,nm4.1,cd⟩ (k+d) fr [some a,some (.int x),some (.int ((lo:Nat):Int)),some (.int ((hi:Nat):Int)),some .none,none,none,none] (sg s) boLN.1 .next (if r<=mid then [some a,some (.int x),some (.int ((lo:Nat):Int)),some (.int ((mid:Nat):Int)),some .none,none,none,none] else [some a,some (.int x),some (.int ((mid+1:Nat):Int)),some (.int ((hi:Nat):Int)),some .none,none,none,none]) (sg s'):=by
  have hv:=hval mid (Af h4 h1) (Ah h2 h5);refine ⟨s,hs,fun Y cd k fr hY=>?_⟩;by_cases hm:r<=mid
  . have hd:decide (κ mid<x)=false:=decide_eq_false fun q=>absurd ((hr mid (Af h4 h1) (Ah h2 h5)).mp q) (Be.mpr hm)
    rw[if_pos hm];refine Exs.post (m2:=(([some a,some (.int x),some (.int ((lo:Nat):Int)),some (.int ((hi:Nat):Int)),some .none,none,none,none].set 5 (some (.int ((mid:Nat):Int)))).set 3 (some (.int ((mid:Nat):Int))))) ?_ (by with_unfolding_all exact Ia6 224);show Exs _ _ _ _ _ (_::_) _ _ _;exact .(Exs.cons .(Ia5 .(Iag .(Ia2 .(Ia2 .(Ia0 2) .(Ia0 3) .(Iai)) .(Ia1) (Iar (by decide) (by decide))) (qqj hmid)) .(Ia4 5)) .(Exs.cons .(Ia7 (c:=false) .(Iaa .(Ia3 .(Ia9 .(Ia0 0) .(Ia0 5) (by exact hL s hs) (by exact qbc (x:=((mid:Nat):Int)) rfl hv) (by exact hz)) .(Ia0 1) .(Op2.lt)) hd) (fun h=>nomatch h) (fun _=>.(Exs.cons .(Ia5 .(Ia0 5) .(Ia4 3)) .(Exs.nil)))) .(Exs.nil)))
  . have hd:decide (κ mid<x)=true:=decide_eq_true ((hr mid (Af h4 h1) (Ah h2 h5)).mpr (Bn.mp hm));rw[if_neg hm];refine Exs.post (m2:=(([some a,some (.int x),some (.int ((lo:Nat):Int)),some (.int ((hi:Nat):Int)),some .none,none,none,none].set 5 (some (.int ((mid:Nat):Int)))).set 2 (some (.int ((mid+1:Nat):Int))))) ?_ (by with_unfolding_all exact Ia6 224);show Exs _ _ _ _ _ (_::_) _ _ _;exact .(Exs.cons .(Ia5 .(Iag .(Ia2 .(Ia2 .(Ia0 2) .(Ia0 3) .(Iai)) .(Ia1) (Iar (by decide) (by decide))) (qqj hmid)) .(Ia4 5)) .(Exs.cons .(Ia7 (c:=true) .(Iaa .(Ia3 .(Ia9 .(Ia0 0) .(Ia0 5) (by exact hL s hs) (by exact qbc (x:=((mid:Nat):Int)) rfl hv) (by exact hz)) .(Ia0 1) .(Op2.lt)) hd) (fun _=>.(Exs.cons .(Ia5 .(Iag .(Ia2 .(Ia0 5) .(Ia1) .(Iai)) (quk)) .(Ia4 2)) .(Exs.nil))) (fun h=>nomatch h)) .(Exs.nil)))
theorem qsn {a x y:AV}{lo hi:Int}:Tr ⟨W,Y,nm4.1,cd⟩ k fr [some a,some x,some (.int lo),some (.int hi),some key,none,none,none] σ teLN.1 (decide (lo<hi)) σ:=by
  show Tr _ _ _ _ _ (.Compare _ _ _ _) _ _;exact .(Ia3 .(Ia0 2) .(Ia0 3) .(Op2.lt))
end
section
theorem qew {x:AV}(hn:σ[n]?=some (.lst l))(c1:Cl σ)(hx:qbd σ.length x=true):∀ao∈σ.set n (.lst (l.take r++[x]++l.drop r)),qdk σ.length ao=true:=fun ao hao=>by
  rcases Fw hao with hao | rfl
  . exact c1 ao hao
  . have hl:qad σ.length l=true:=c1 (.lst l) (Aw hn);refine qc8 fun v hv=>?_
    rcases BW.mp hv with hv | hv
    . rcases BW.mp hv with hv | hv
      . exact qcx hl v (List.mem_of_mem_take hv)
      . rw[AL.mp hv];exact hx
    . exact qcx hl v (List.mem_of_mem_drop hv)
theorem qu9 (F:Fac W){P:S->Prop}{s:S}{a:AV}{x:Int}{lo:Nat}(hK:qou W d Yk sg P key a l κ)(hs:P s)(hlen:∀s s':S,(sg s).length=(sg s').length)(hz:l.length<=Ai)(hH:(H=.none/\hi=l.length)\/H=.int (hi:Nat))(hhi:hi<=l.length)(h1:lo<=r)(h2:r<=hi)(hr:∀j:Nat,lo<=j->j<hi->(x<κ j↔r<=j))(B:FnB W NoK nm2.1 bd2.1 A2 args kn kv [some a,some (.int x),some (.int ((lo:Nat):Int)),some H,some key,none,none,none]):∃s',P s'/\∀(k:Nat) (fr:List Env) (Y:Nat->Prop),(∀n,Yk n->Y n)->Calls W Y (k+d+1) fr (sg s) (.glob (.ref A2)) args kn kv (.int (r:Nat)) (sg s'):=by
  refine qa5 (qfh (nm:=nm2.1) (fun _ _ _ _ _ _ _=>qsm (y:=.none)) (qm7 hK.lv hz hK.kept hK.at_ hhi hr) hi lo hi s (Ck _ _) h1 h2 (Ak _) (Ak _) hs) ?_;intro s' hs' hw;refine ⟨s',hs',fun k fr Y hY=>Ibl B (m':=[]) (fl:=.ret (.int (r:Nat))) (fun cd env _=>Exs.f ?_) (BE (hlen _ _)) rfl rfl⟩;have hw:=hw (fun m=>Y m\/(sg s).length<=m) cd k (env::fr) fun n q=>.inl (hY n q)
  have hneg:decide ((lo:Int)<0)=false:=decide_eq_false (Gg.mpr (Bh lo));show Exs _ _ _ _ _ (_::_) _ _ _;rcases hH with ⟨rfl,rfl⟩ | rfl
  . with_reducible exact Iae .(Exs.cons .(Ia7 (c:=false) .(Iaa .(Ia3 .(Ia0 2) .(Ia1) .(Op2.lt)) hneg) (fun h=>nomatch h) (fun _=>.(Exs.nil))) .(Exs.cons .(Ia7 (c:=true) .(Iaa .(Ia3 .(Ia0 3) .(Iaf) .(Op2.isNone Uu)) rfl) (fun _=>.(Exs.cons .(Ia5 .(Ev.call .(Iah 7 F.b_len) .(Kept.builtin) (Evs.cons .(Ia0 0) .(Evs.nil)) EvK.nil (Calls.len (hK.lv s hs) hz)) .(Ia4 3)) .(Exs.nil))) (fun h=>nomatch h)) .(Exs.cons .(Ia7 (c:=false) .(Iaa .(Ia3 .(Ia0 4) .(Iaf) (Op2.isNone hK.nn)) rfl) (fun h=>nomatch h) (fun _=>.(Exs.cons .(Iau (by with_unfolding_all exact WhileC.pre hw (by with_unfolding_all exact Ia6 224))) .(Exs.nil)))) .(Exs.ret .(Iaj .(Ia0 2))))))
  . with_reducible exact Iae .(Exs.cons .(Ia7 (c:=false) .(Iaa .(Ia3 .(Ia0 2) .(Ia1) .(Op2.lt)) hneg) (fun h=>nomatch h) (fun _=>.(Exs.nil))) .(Exs.cons .(Ia7 (c:=false) .(Iaa .(Ia3 .(Ia0 3) .(Iaf) .(Op2.isNone Uu)) rfl) (fun h=>nomatch h) (fun _=>.(Exs.nil))) .(Exs.cons .(Ia7 (c:=false) .(Iaa .(Ia3 .(Ia0 4) .(Iaf) (Op2.isNone hK.nn)) rfl) (fun h=>nomatch h) (fun _=>.(Exs.cons .(Iau (by with_unfolding_all exact WhileC.pre hw (by with_unfolding_all exact Ia6 224))) .(Exs.nil)))) .(Exs.ret .(Iaj .(Ia0 2))))))
theorem qv6 (F:Fac W){a:AV}{x:Int}{lo:Nat}(hL:Lv σ a l)(hval:∀(j:Nat),lo<=j->j<hi->l[j]?=some (.int (κ j)))(hz:l.length<=Ai)(hH:(H=.none/\hi=l.length)\/H=.int (hi:Nat))(hhi:hi<=l.length)(h1:lo<=r)(h2:r<=hi)(hr:∀j:Nat,lo<=j->j<hi->(x<κ j↔r<=j))(B:FnB W NoK nm2.1 bd2.1 A2 args [] [] [some a,some (.int x),some (.int ((lo:Nat):Int)),some H,some .none,none,none,none]):Calls W Y (k+1) fr σ (.glob (.ref A2)) args [] [] (.int (r:Nat)) σ:=by
  obtain ⟨_,_,hw⟩:=qfh (W:=W) (d:=0) (Yk:=fun _=>False) (sg:=fun _:Unit=>σ) (P:=fun _=>True) (nm:=nm2.1) (fun _ _ _ _ _ _ _=>qsl (y:=.none)) (qm6 (fun _ _=>hL) hz hval hr) hi lo hi () (Ck _ _) h1 h2 (Ak _) (Ak _) trivial;refine Iax B (m':=[]) (fl:=.ret (.int (r:Nat))) (fun cd env _=>Exs.f ?_) rfl rfl;have hw:=hw (fun m=>Y m\/σ.length<=m) cd k (env::fr) fun n q=>q.elim
  have hneg:decide ((lo:Int)<0)=false:=decide_eq_false (Gg.mpr (Bh lo));show Exs _ _ _ _ _ (_::_) _ _ _;rcases hH with ⟨rfl,rfl⟩ | rfl
  . with_reducible exact Iae .(Exs.cons .(Ia7 (c:=false) .(Iaa .(Ia3 .(Ia0 2) .(Ia1) .(Op2.lt)) hneg) (fun h=>nomatch h) (fun _=>.(Exs.nil))) .(Exs.cons .(Ia7 (c:=true) .(Iaa .(Ia3 .(Ia0 3) .(Iaf) .(Op2.isNone Uu)) rfl) (fun _=>.(Exs.cons .(Ia5 .(Ev.call .(Iah 7 F.b_len) .(Kept.builtin) (Evs.cons .(Ia0 0) .(Evs.nil)) EvK.nil (Calls.len hL hz)) .(Ia4 3)) .(Exs.nil))) (fun h=>nomatch h)) .(Exs.cons .(Ia7 (c:=true) .(Iaa .(Ia3 .(Ia0 4) .(Iaf) .(Op2.isNone Uu)) rfl) (fun _=>.(Exs.cons .(Iau (by with_unfolding_all exact WhileC.pre hw (by with_unfolding_all exact Ia6 224))) .(Exs.nil))) (fun h=>nomatch h)) .(Exs.ret .(Iaj .(Ia0 2))))))
  . with_reducible exact Iae .(Exs.cons .(Ia7 (c:=false) .(Iaa .(Ia3 .(Ia0 2) .(Ia1) .(Op2.lt)) hneg) (fun h=>nomatch h) (fun _=>.(Exs.nil))) .(Exs.cons .(Ia7 (c:=false) .(Iaa .(Ia3 .(Ia0 3) .(Iaf) .(Op2.isNone Uu)) rfl) (fun h=>nomatch h) (fun _=>.(Exs.nil))) .(Exs.cons .(Ia7 (c:=true) .(Iaa .(Ia3 .(Ia0 4) .(Iaf) .(Op2.isNone Uu)) rfl) (fun _=>.(Exs.cons .(Iau (by with_unfolding_all exact WhileC.pre hw (by with_unfolding_all exact Ia6 224))) .(Exs.nil))) (fun h=>nomatch h)) .(Exs.ret .(Iaj .(Ia0 2))))))
theorem qtu (F:Fac W)(hn:σ[n]?=some (.lst l))(hY:Y n)(hz:l.length<=Ai)(h2:r<=l.length)(hr:∀j:Nat,0<=j->j<l.length->(kx<κ j↔r<=j)){x:AV}(hkp:Kept W key)(hnn:isNone key=some false)(hk:∀j v,l[j]?=some v->∀k fr Y,Calls W Y (k+d) fr σ key [v] [] [] (.int (κ j)) σ)(hx:∀k fr Y,Calls W Y (k+d) fr σ key [x] [] [] (.int kx) σ)(hpx:plain x=true)(k:Nat)(fr:List Env):Calls W Y (k+1+d+1) fr σ (.glob (.ref A1)) [.loc n,x] ["key"] [key] .none (σ.set n (.lst (l.take r++[x]++l.drop r))):=by
  refine Ib7 (τ:=[]) (F.f1k2 (.loc n) x key) (m':=[]) (fl:=.next) (fun cd env _=>?_) (by simp) (fun c1 c2=>⟨rfl,qew hn c1 (qcx (c2 (by show (true&&(plain x&&true))=true;rw[hpx];rfl)) x (.tail _ (.head _)))⟩);rw[Bf];refine Exs.f (Iae (m2:=[some (.loc n),some (x),some (.int 0),some .none,some key,none].set 2 (some (.int ((r:Nat):Int)))) ?_);show Exs _ _ _ _ _ (_::_) _ _ _;have hY':(fun m=>Y m\/σ.length<=m) n:=.inl hY;have hkx:=hx (k+1) (env::fr) (fun m=>Y m\/σ.length<=m);have hb:Calls W (fun m=>Y m\/σ.length<=m) (k+1+d) (env::fr) σ (.glob (.ref A2)) [.loc n,.int kx,.int 0,.none] ["key"] [key] (.int ((r:Nat):Int)) σ:=by
    refine qa5 (qu9 F (lo:=0) (s:=()) (⟨hkp,hnn,fun _ _=>.inr ⟨n,rfl,hn⟩,fun j v hv=>Ibs (hk j v hv)⟩:qou W d (fun _=>False) (fun _:Unit=>σ) (fun _=>True) key (.loc n) l κ) trivial (fun _ _=>rfl) hz (.inl ⟨rfl,rfl⟩) (Ak _) (AI r) h2 hr (F.f2k4 (.loc n) (.int kx) (.int 0) .none key)) ?_;intro _ _ h;have h:=h k (env::fr) (fun m=>Y m\/σ.length<=m) nofun;rwa[Ee] at h
  have hkb:=(F.f2k4 .none .none .none .none .none).kept;exact .(Exs.cons .(Ia7 (c:=false) .(Iaa .(Ia3 .(Ia0 4) .(Iaf) (Op2.isNone hnn)) rfl) (fun h=>nomatch h) (fun _=>.(Exs.cons .(Ia5 .(Ev.call .(Iac 5 F.g_bisect_right) (hkb) (Evs.cons .(Ia0 0) .((Evs.cons .(Ev.call .(Ia0 4) (hkp) (Evs.cons .(Ia0 1) .(Evs.nil)) EvK.nil (hkx)) .((Evs.cons .(Ia0 2) .((Evs.cons .(Ia0 3) .(Evs.nil)))))))) (EvK.cons .(Ia0 4) .(EvK.nil)) (hb)) .(Ia4 2)) .(Exs.nil)))) .(Exs.cons .(Ex.expr .(Ial .(Ia0 0) (by exact Ibr .(Lv.loc (by assumption))) .(Kept.builtin) (Evs.cons .(Ia0 2) .((Evs.cons .(Ia0 1) .(Evs.nil)))) (by with_unfolding_all exact (Ibi rfl hn hY' h2 hpx hz)))) .(Exs.nil)))
theorem qh1 (F:Fac W){a x:AV}(B:FnB W NoK nm2.1 bd2.1 A2 args kn kv [some a,some x,some (.int (-1)),some H,some key,none,none,none]):CallsR W Y (k+1) fr σ (.glob (.ref A2)) args kn kv false "ValueError" (fun us=>∃t,us=[.str "lo must be non-negative" t]) σ:=by
  refine B.callsR (m':=[some a,some x,some (.int (-1)),some H,some key,none,none,none]) (mk:=true) fun cd env _=>?_
  show ExsR _ _ _ _ _ (_::_) _ _ _ _ _;refine ExsR.head ?_;show ExR _ _ _ _ _ (.If _ (_::_) _ _) _ _ _ _ _;refine Icm (c:=true) (z1:=σ) ?_ (fun _=>ExsR.head ?_) (fun h=>nomatch h)
  . with_reducible exact Iaa .(Ia3 .(Ia0 2) .(Ia1) .(Op2.lt)) (by decide)
  . exact Ich (i:=6) Uu F.b_ValueError.g F.b_ValueError.b
theorem qkb (F:Fac W){a x:AV}:CallsR W Y (k+1) fr σ (.glob (.ref A2)) [a,x,.int (-1)] ["key"] [key] false "ValueError" (fun us=>∃t,us=[.str "lo must be non-negative" t]) σ:=qh1 F (F.f2k3 a x (.int (-1)) key)
theorem qjt (F:Fac W){a x:AV}(hkp:Kept W key)(hnn:isNone key=some false)(hx:∀k fr Y,Calls W Y (k+d) fr σ key [x] [] [] (.int kx) σ):CallsR W Y (k+1+d+1) fr σ (.glob (.ref A1)) [a,x,.int (-1)] ["key"] [key] false "ValueError" (fun us=>∃t,us=[.str "lo must be non-negative" t]) σ:=by
  refine (F.f1k3 a x (.int (-1)) key).callsR (mk:=false) (m':=[some a,some x,some (.int (-1)),some .none,some key,none]) fun cd env _=>?_
  have hkx:=hx (k+1) (env::fr) (fun m=>Y m\/σ.length<=m);have hb:CallsR W (fun m=>Y m\/σ.length<=m) (k+1+d) (env::fr) σ (.glob (.ref A2)) [a,.int kx,.int (-1),.none] ["key"] [key] false "ValueError" (fun us=>∃t,us=[.str "lo must be non-negative" t]) σ:=by
    have h:=qh1 F (Y:=fun m=>Y m\/σ.length<=m) (k:=k+d) (fr:=env::fr) (σ:=σ) (F.f2k4 a (.int kx) (.int (-1)) .none key);rwa[Ee] at h
  have hkb:=(F.f2k4 .none .none .none .none .none).kept;show ExsR _ _ _ _ _ (_::_) _ _ _ _ _;refine ExsR.head ?_;show ExR _ _ _ _ _ (.If _ _ (_::_) _) _ _ _ _ _;refine Icm (c:=false) (z1:=σ) ?_ (fun h=>nomatch h) (fun _=>ExsR.head ?_)
  . exact .(Ia3 .(Ia0 4) .(Iaf) (Op2.isNone hnn))
  . with_reducible exact Id0 .(EvR.call .(Iac 5 F.g_bisect_right) hkb (Evs.cons .(Ia0 0) .((Evs.cons .(Ev.call .(Ia0 4) (hkp) (Evs.cons .(Ia0 1) .(Evs.nil)) EvK.nil (hkx)) .((Evs.cons .(Ia0 2) .((Evs.cons .(Ia0 3) .(Evs.nil)))))))) (EvK.cons .(Ia0 4) .(EvK.nil)) hb)
theorem qub (F:Fac W){P:S->Prop}{s:S}{a:AV}{x:Int}{lo:Nat}(hK:qou W d Yk sg P key a l κ)(hs:P s)(hlen:∀s s':S,(sg s).length=(sg s').length)(hz:l.length<=Ai)(hH:(H=.none/\hi=l.length)\/H=.int (hi:Nat))(hhi:hi<=l.length)(h1:lo<=r)(h2:r<=hi)(hr:∀j:Nat,lo<=j->j<hi->(κ j<x↔j<r))(B:FnB W NoK nm4.1 bd4.1 A4 args kn kv [some a,some (.int x),some (.int ((lo:Nat):Int)),some H,some key,none,none,none]):∃s',P s'/\∀(k:Nat) (fr:List Env) (Y:Nat->Prop),(∀n,Yk n->Y n)->Calls W Y (k+d+1) fr (sg s) (.glob (.ref A4)) args kn kv (.int (r:Nat)) (sg s'):=by
  refine qa5 (qfh (nm:=nm4.1) (fun _ _ _ _ _ _ _=>qso (y:=.none)) (qm9 hK.lv hz hK.kept hK.at_ hhi hr) hi lo hi s (Ck _ _) h1 h2 (Ak _) (Ak _) hs) ?_;intro s' hs' hw;refine ⟨s',hs',fun k fr Y hY=>Ibl B (m':=[]) (fl:=.ret (.int (r:Nat))) (fun cd env _=>Exs.f ?_) (BE (hlen _ _)) rfl rfl⟩;have hw:=hw (fun m=>Y m\/(sg s).length<=m) cd k (env::fr) fun n q=>.inl (hY n q)
  have hneg:decide ((lo:Int)<0)=false:=decide_eq_false (Gg.mpr (Bh lo));show Exs _ _ _ _ _ (_::_) _ _ _;rcases hH with ⟨rfl,rfl⟩ | rfl
  . with_reducible exact Iae .(Exs.cons .(Ia7 (c:=false) .(Iaa .(Ia3 .(Ia0 2) .(Ia1) .(Op2.lt)) hneg) (fun h=>nomatch h) (fun _=>.(Exs.nil))) .(Exs.cons .(Ia7 (c:=true) .(Iaa .(Ia3 .(Ia0 3) .(Iaf) .(Op2.isNone Uu)) rfl) (fun _=>.(Exs.cons .(Ia5 .(Ev.call .(Iah 7 F.b_len) .(Kept.builtin) (Evs.cons .(Ia0 0) .(Evs.nil)) EvK.nil (Calls.len (hK.lv s hs) hz)) .(Ia4 3)) .(Exs.nil))) (fun h=>nomatch h)) .(Exs.cons .(Ia7 (c:=false) .(Iaa .(Ia3 .(Ia0 4) .(Iaf) (Op2.isNone hK.nn)) rfl) (fun h=>nomatch h) (fun _=>.(Exs.cons .(Iau (by with_unfolding_all exact WhileC.pre hw (by with_unfolding_all exact Ia6 224))) .(Exs.nil)))) .(Exs.ret .(Iaj .(Ia0 2))))))
  . with_reducible exact Iae .(Exs.cons .(Ia7 (c:=false) .(Iaa .(Ia3 .(Ia0 2) .(Ia1) .(Op2.lt)) hneg) (fun h=>nomatch h) (fun _=>.(Exs.nil))) .(Exs.cons .(Ia7 (c:=false) .(Iaa .(Ia3 .(Ia0 3) .(Iaf) .(Op2.isNone Uu)) rfl) (fun h=>nomatch h) (fun _=>.(Exs.nil))) .(Exs.cons .(Ia7 (c:=false) .(Iaa .(Ia3 .(Ia0 4) .(Iaf) (Op2.isNone hK.nn)) rfl) (fun h=>nomatch h) (fun _=>.(Exs.cons .(Iau (by with_unfolding_all exact WhileC.pre hw (by with_unfolding_all exact Ia6 224))) .(Exs.nil)))) .(Exs.ret .(Iaj .(Ia0 2))))))
theorem qua (F:Fac W){a:AV}{x:Int}{lo:Nat}(hL:Lv σ a l)(hval:∀(j:Nat),lo<=j->j<hi->l[j]?=some (.int (κ j)))(hz:l.length<=Ai)(hH:(H=.none/\hi=l.length)\/H=.int (hi:Nat))(hhi:hi<=l.length)(h1:lo<=r)(h2:r<=hi)(hr:∀j:Nat,lo<=j->j<hi->(κ j<x↔j<r))(B:FnB W NoK nm4.1 bd4.1 A4 args [] [] [some a,some (.int x),some (.int ((lo:Nat):Int)),some H,some .none,none,none,none]):Calls W Y (k+1) fr σ (.glob (.ref A4)) args [] [] (.int (r:Nat)) σ:=by
  obtain ⟨_,_,hw⟩:=qfh (W:=W) (d:=0) (Yk:=fun _=>False) (sg:=fun _:Unit=>σ) (P:=fun _=>True) (nm:=nm4.1) (fun _ _ _ _ _ _ _=>qsn (y:=.none)) (qm8 (fun _ _=>hL) hz hval hr) hi lo hi () (Ck _ _) h1 h2 (Ak _) (Ak _) trivial;refine Iax B (m':=[]) (fl:=.ret (.int (r:Nat))) (fun cd env _=>Exs.f ?_) rfl rfl;have hw:=hw (fun m=>Y m\/σ.length<=m) cd k (env::fr) fun n q=>q.elim
  have hneg:decide ((lo:Int)<0)=false:=decide_eq_false (Gg.mpr (Bh lo));show Exs _ _ _ _ _ (_::_) _ _ _;rcases hH with ⟨rfl,rfl⟩ | rfl
  . with_reducible exact Iae .(Exs.cons .(Ia7 (c:=false) .(Iaa .(Ia3 .(Ia0 2) .(Ia1) .(Op2.lt)) hneg) (fun h=>nomatch h) (fun _=>.(Exs.nil))) .(Exs.cons .(Ia7 (c:=true) .(Iaa .(Ia3 .(Ia0 3) .(Iaf) .(Op2.isNone Uu)) rfl) (fun _=>.(Exs.cons .(Ia5 .(Ev.call .(Iah 7 F.b_len) .(Kept.builtin) (Evs.cons .(Ia0 0) .(Evs.nil)) EvK.nil (Calls.len hL hz)) .(Ia4 3)) .(Exs.nil))) (fun h=>nomatch h)) .(Exs.cons .(Ia7 (c:=true) .(Iaa .(Ia3 .(Ia0 4) .(Iaf) .(Op2.isNone Uu)) rfl) (fun _=>.(Exs.cons .(Iau (by with_unfolding_all exact WhileC.pre hw (by with_unfolding_all exact Ia6 224))) .(Exs.nil))) (fun h=>nomatch h)) .(Exs.ret .(Iaj .(Ia0 2))))))
  . with_reducible exact Iae .(Exs.cons .(Ia7 (c:=false) .(Iaa .(Ia3 .(Ia0 2) .(Ia1) .(Op2.lt)) hneg) (fun h=>nomatch h) (fun _=>.(Exs.nil))) .(Exs.cons .(Ia7 (c:=false) .(Iaa .(Ia3 .(Ia0 3) .(Iaf) .(Op2.isNone Uu)) rfl) (fun h=>nomatch h) (fun _=>.(Exs.nil))) .(Exs.cons .(Ia7 (c:=true) .(Iaa .(Ia3 .(Ia0 4) .(Iaf) .(Op2.isNone Uu)) rfl) (fun _=>.(Exs.cons .(Iau (by with_unfolding_all exact WhileC.pre hw (by with_unfolding_all exact Ia6 224))) .(Exs.nil))) (fun h=>nomatch h)) .(Exs.ret .(Iaj .(Ia0 2))))))
theorem quz (F:Fac W)(hn:σ[n]?=some (.lst l))(hY:Y n)(hz:l.length<=Ai)(h2:r<=l.length)(hr:∀j:Nat,0<=j->j<l.length->(κ j<kx↔j<r)){x:AV}(hkp:Kept W key)(hnn:isNone key=some false)(hk:∀j v,l[j]?=some v->∀k fr Y,Calls W Y (k+d) fr σ key [v] [] [] (.int (κ j)) σ)(hx:∀k fr Y,Calls W Y (k+d) fr σ key [x] [] [] (.int kx) σ)(hpx:plain x=true)(k:Nat)(fr:List Env):Calls W Y (k+1+d+1) fr σ (.glob (.ref A3)) [.loc n,x] ["key"] [key] .none (σ.set n (.lst (l.take r++[x]++l.drop r))):=by
  refine Ib7 (τ:=[]) (F.f3k2 (.loc n) x key) (m':=[]) (fl:=.next) (fun cd env _=>?_) (by simp) (fun c1 c2=>⟨rfl,qew hn c1 (qcx (c2 (by show (true&&(plain x&&true))=true;rw[hpx];rfl)) x (.tail _ (.head _)))⟩);rw[Bf];refine Exs.f (Iae (m2:=[some (.loc n),some (x),some (.int 0),some .none,some key,none].set 2 (some (.int ((r:Nat):Int)))) ?_);show Exs _ _ _ _ _ (_::_) _ _ _;have hY':(fun m=>Y m\/σ.length<=m) n:=.inl hY;have hkx:=hx (k+1) (env::fr) (fun m=>Y m\/σ.length<=m);have hb:Calls W (fun m=>Y m\/σ.length<=m) (k+1+d) (env::fr) σ (.glob (.ref A4)) [.loc n,.int kx,.int 0,.none] ["key"] [key] (.int ((r:Nat):Int)) σ:=by
    refine qa5 (qub F (lo:=0) (s:=()) (⟨hkp,hnn,fun _ _=>.inr ⟨n,rfl,hn⟩,fun j v hv=>Ibs (hk j v hv)⟩:qou W d (fun _=>False) (fun _:Unit=>σ) (fun _=>True) key (.loc n) l κ) trivial (fun _ _=>rfl) hz (.inl ⟨rfl,rfl⟩) (Ak _) (AI r) h2 hr (F.f4k4 (.loc n) (.int kx) (.int 0) .none key)) ?_;intro _ _ h;have h:=h k (env::fr) (fun m=>Y m\/σ.length<=m) nofun;rwa[Ee] at h
  have hkb:=(F.f4k4 .none .none .none .none .none).kept;exact .(Exs.cons .(Ia7 (c:=false) .(Iaa .(Ia3 .(Ia0 4) .(Iaf) (Op2.isNone hnn)) rfl) (fun h=>nomatch h) (fun _=>.(Exs.cons .(Ia5 .(Ev.call .(Iac 5 F.g_bisect_left) (hkb) (Evs.cons .(Ia0 0) .((Evs.cons .(Ev.call .(Ia0 4) (hkp) (Evs.cons .(Ia0 1) .(Evs.nil)) EvK.nil (hkx)) .((Evs.cons .(Ia0 2) .((Evs.cons .(Ia0 3) .(Evs.nil)))))))) (EvK.cons .(Ia0 4) .(EvK.nil)) (hb)) .(Ia4 2)) .(Exs.nil)))) .(Exs.cons .(Ex.expr .(Ial .(Ia0 0) (by exact Ibr .(Lv.loc (by assumption))) .(Kept.builtin) (Evs.cons .(Ia0 2) .((Evs.cons .(Ia0 1) .(Evs.nil)))) (by with_unfolding_all exact (Ibi rfl hn hY' h2 hpx hz)))) .(Exs.nil)))
theorem quy (F:Fac W){lo:Nat}(hn:σ[n]?=some (.lst l))(hY:Y n)(hz:l.length<=Ai)(hH:(H=.none/\hi=l.length)\/H=.int (hi:Nat))(hhi:hi<=l.length)(h1:lo<=r)(h2:r<=hi)(hr:∀j:Nat,lo<=j->j<hi->(κ j<kx↔j<r))(hval:∀j:Nat,lo<=j->j<hi->l[j]?=some (.int (κ j)))(B:FnB W NoK nm3.1 bd3.1 A3 args [] [] [some (.loc n),some (.int kx),some (.int (lo:Nat)),some H,some .none,none])(k:Nat)(fr:List Env):Calls W Y (k+2) fr σ (.glob (.ref A3)) args [] [] .none (σ.set n (.lst (l.take r++[.int kx]++l.drop r))):=by
  refine Ib7 (τ:=[]) B (m':=[]) (fl:=.next) (fun cd env _=>?_) (by simp) (fun c1 c2=>⟨rfl,qew (x:=.int kx) hn c1 rfl⟩);rw[Bf];refine Exs.f (Iae (m2:=[some (.loc n),some (.int kx),some (.int (lo:Nat)),some H,some .none,none].set 2 (some (.int ((r:Nat):Int)))) ?_);show Exs _ _ _ _ _ (_::_) _ _ _;have hY':(fun m=>Y m\/σ.length<=m) n:=.inl hY;have hb:Calls W (fun m=>Y m\/σ.length<=m) (k+1) (env::fr) σ (.glob (.ref A4)) [.loc n,.int kx,.int (lo:Nat),H] [] [] (.int ((r:Nat):Int)) σ:=qua F (.inr ⟨n,rfl,hn⟩) hval hz hH hhi h1 h2 hr (F.f4n4 (.loc n) (.int kx) (.int (lo:Nat)) H);have hkb:=(F.f4k4 .none .none .none .none .none).kept;exact .(Exs.cons .(Ia7 (c:=true) .(Iaa .(Ia3 .(Ia0 4) .(Iaf) .(Op2.isNone Uu)) rfl) (fun _=>.(Exs.cons .(Ia5 .(Ev.call .(Iac 5 F.g_bisect_left) (hkb) (Evs.cons .(Ia0 0) .((Evs.cons .(Ia0 1) .((Evs.cons .(Ia0 2) .((Evs.cons .(Ia0 3) .(Evs.nil)))))))) EvK.nil (hb)) .(Ia4 2)) .(Exs.nil))) (fun h=>nomatch h)) .(Exs.cons .(Ex.expr .(Ial .(Ia0 0) (by exact Ibr .(Lv.loc (by assumption))) .(Kept.builtin) (Evs.cons .(Ia0 2) .((Evs.cons .(Ia0 1) .(Evs.nil)))) (by with_unfolding_all exact (Ibi rfl hn hY' (Af h2 hhi) rfl hz)))) .(Exs.nil)))
theorem qh2 (F:Fac W){a x:AV}(B:FnB W NoK nm4.1 bd4.1 A4 args kn kv [some a,some x,some (.int (-1)),some H,some key,none,none,none]):CallsR W Y (k+1) fr σ (.glob (.ref A4)) args kn kv false "ValueError" (fun us=>∃t,us=[.str "lo must be non-negative" t]) σ:=by
  refine B.callsR (m':=[some a,some x,some (.int (-1)),some H,some key,none,none,none]) (mk:=true) fun cd env _=>?_
  show ExsR _ _ _ _ _ (_::_) _ _ _ _ _;refine ExsR.head ?_;show ExR _ _ _ _ _ (.If _ (_::_) _ _) _ _ _ _ _;refine Icm (c:=true) (z1:=σ) ?_ (fun _=>ExsR.head ?_) (fun h=>nomatch h)
  . with_reducible exact Iaa .(Ia3 .(Ia0 2) .(Ia1) .(Op2.lt)) (by decide)
  . exact Ich (i:=6) Uu F.b_ValueError.g F.b_ValueError.b
theorem qkc (F:Fac W){a x:AV}:CallsR W Y (k+1) fr σ (.glob (.ref A4)) [a,x,.int (-1)] ["key"] [key] false "ValueError" (fun us=>∃t,us=[.str "lo must be non-negative" t]) σ:=qh2 F (F.f4k3 a x (.int (-1)) key)
theorem qju (F:Fac W){a x:AV}(hkp:Kept W key)(hnn:isNone key=some false)(hx:∀k fr Y,Calls W Y (k+d) fr σ key [x] [] [] (.int kx) σ):CallsR W Y (k+1+d+1) fr σ (.glob (.ref A3)) [a,x,.int (-1)] ["key"] [key] false "ValueError" (fun us=>∃t,us=[.str "lo must be non-negative" t]) σ:=by
  refine (F.f3k3 a x (.int (-1)) key).callsR (mk:=false) (m':=[some a,some x,some (.int (-1)),some .none,some key,none]) fun cd env _=>?_
  have hkx:=hx (k+1) (env::fr) (fun m=>Y m\/σ.length<=m);have hb:CallsR W (fun m=>Y m\/σ.length<=m) (k+1+d) (env::fr) σ (.glob (.ref A4)) [a,.int kx,.int (-1),.none] ["key"] [key] false "ValueError" (fun us=>∃t,us=[.str "lo must be non-negative" t]) σ:=by
    have h:=qh2 F (Y:=fun m=>Y m\/σ.length<=m) (k:=k+d) (fr:=env::fr) (σ:=σ) (F.f4k4 a (.int kx) (.int (-1)) .none key);rwa[Ee] at h
  have hkb:=(F.f4k4 .none .none .none .none .none).kept;show ExsR _ _ _ _ _ (_::_) _ _ _ _ _;refine ExsR.head ?_;show ExR _ _ _ _ _ (.If _ _ (_::_) _) _ _ _ _ _;refine Icm (c:=false) (z1:=σ) ?_ (fun h=>nomatch h) (fun _=>ExsR.head ?_)
  . exact .(Ia3 .(Ia0 4) .(Iaf) (Op2.isNone hnn))
  . with_reducible exact Id0 .(EvR.call .(Iac 5 F.g_bisect_left) hkb (Evs.cons .(Ia0 0) .((Evs.cons .(Ev.call .(Ia0 4) (hkp) (Evs.cons .(Ia0 1) .(Evs.nil)) EvK.nil (hkx)) .((Evs.cons .(Ia0 2) .((Evs.cons .(Ia0 3) .(Evs.nil)))))))) (EvK.cons .(Ia0 4) .(EvK.nil)) hb)
end
section
theorem qf5 (l:List Int):qad b (qa7 l)=true:=qc8 fun v hv=>by
  refine qa5 (Br.mp hv) ?_;intro i _ eq_0_2;subst eq_0_2;rfl
theorem qe3 {x:AObj}(h:∀ao∈σ,qdk b ao=true)(hx:qdk b x=true):∀ao∈σ.set n x,qdk b ao=true:=fun ao hao=>by
  rcases Fw hao with q | rfl
  . exact h ao q
  . exact hx
theorem qj1 (F:Fac W){n w:Int}:Calls W Y (k+1) fr σ (.glob (.ref A13)) [.int n,.int w] [] [] (.lst (qa7 (qmc n w))) σ:=by
  refine qut (qgx (n:=n) (w:=w)) ?_;intro hz h t ht;refine Iax (F.f13 (.int n) (.int w) rfl rfl) (fun cd env _=>(qk3 ht (ht ▸ hz)).f) ?_ (qdn _);rw[qmc,ht];rfl
noncomputable def te8:PSigma (fun l=>(qjd (nth bd8.1 2))=l):=⟨_,by conv=>lhs;whnf⟩
noncomputable def bo8:PSigma (fun l=>(qbp (nth bd8.1 2))=l):=⟨_,by conv=>lhs;whnf⟩
theorem qjc (F:Fac W){r:Int}{out:List Int}(hY:Y n):∀(rest:List Int) (val b:Int) (σ:List AObj),σ[n]?=some (.iter (qa7 rest))->qko val b rest=some (r,out) ->
    WhileC ⟨W,Y,nm8.1,cd⟩ k fr te8.1 bo8.1 [] [some (.loc n),some (.int b),some (.int val),none] σ .next [some (.loc n),none,some (.int r),none] (σ.set n (.iter (qa7 out))):=by
  have stop:∀(rest:List Int) (val b:Int) (σ:List AObj),σ[n]?=some (.iter (qa7 rest))->qko val b rest=some (r,out)->b / 64 % 2=0 ->
      WhileC ⟨W,Y,nm8.1,cd⟩ k fr te8.1 bo8.1 [] [some (.loc n),some (.int b),some (.int val),none] σ .next [some (.loc n),none,some (.int r),none] (σ.set n (.iter (qa7 out))):=by
    intro rest val b σ hn hp hb;rw[qh8 hb] at hp;injection hp with hp;injection hp with h1 h2;subst h1 h2
    rw[qh7 hn];have ht:(AE b 64 != 0)=false:=by
      rw[show (64:Int)=2 ^ 6 from rfl,kbt_bit,show (2:Int) ^ 6=64 from rfl,hb];rfl
    refine WhileC.post (m2:=[some (.loc n),some (.int b),some (.int val),none]) (Ibq (z1:=σ) ?_ Exs.nil) (by with_unfolding_all exact Ia6 10);show Tr _ _ _ _ _ (.BinOp _ _ _ _) _ _;with_reducible exact Iaa .(Tr.val .(Ia2 .(Ia0 1) .(Ia1) .(Op2.and)) (Tv.int)) ht
  intro rest;induction rest with
  | nil=>
    intro val b σ hn hp;by_cases hb:b / 64 % 2=0
    . exact stop [] val b σ hn hp hb
    . rw[qko,if_neg hb] at hp;cases hp
  | cons b' rest ih=>
    intro val b σ hn hp;by_cases hb:b / 64 % 2=0
    . exact stop _ val b σ hn hp hb
    . by_cases hv:0<=val/\val<2 ^ 50
      . rw[qfl hb hv] at hp;have ht:(AE b 64 != 0)=true:=by
          rw[show (64:Int)=2 ^ 6 from rfl,kbt_bit,show (2:Int) ^ 6=64 from rfl];have:b / 64 % 2=1:=by omega
          rw[this];rfl
        have hw:=ih (val*64+b' % 64) b' (σ.set n (.iter (qa7 rest))) (qbv hn) hp;rw[Db] at hw;have hnx:σ[n]?=some (.iter (.int b'::qa7 rest)):=hn;have e1:AV.int (DC (val*2 ^ (6:Int).toNat) (AE b' 63))=.int (val*64+b' % 64):=by
          rw[bitAnd_m6,show (2:Int) ^ (6:Int).toNat=64 from rfl,qop hv.1 (by omega) (by omega)]
        refine WhileC.next (z1:=σ) (z2:=σ.set n (.iter (qa7 rest))) (m1:=[some (.loc n),some (.int b'),some (.int (val*64+b' % 64)),none]) ?_ ?_ hw
        . show Tr _ _ _ _ _ (.BinOp _ _ _ _) _ _;with_reducible exact Iaa .(Tr.val .(Ia2 .(Ia0 1) .(Ia1) .(Op2.and)) (Tv.int)) ht
        . refine Exs.post (m2:=((([some (.loc n),some (.int b),some (.int val),none].set 2 (some (.int (val*2 ^ (6:Int).toNat)))).set 1 (some (.int b'))).set 2 (some (.int (val*64+b' % 64))))) ?_ (by with_unfolding_all exact Ia6 8);show Exs _ _ _ _ _ (_::_) _ _ _;have hva:val.natAbs<2 ^ 64:=by omega
          exact .(Exs.cons .(Idb (i:=2) Uu Uu .(Ia1) (Idx (by decide) (by decide) hva) Uu) .(Exs.cons .(Ia5 .(Ev.call .(Iah 3 F.b_next) .(Kept.builtin) (Evs.cons .(Ia0 0) .(Evs.nil)) EvK.nil (Ica hnx hY)) .(Ia4 1)) .(Exs.cons .(Idb (i:=2) Uu Uu .(Ia2 .(Ia0 1) .(Ia1) .(Op2.and)) (Ic2 Ie8 e1) Uu) .(Exs.nil))))
      . rw[qko,if_neg hb,if_neg hv] at hp;cases hp
theorem qhz (F:Fac W){l out:List Int}{r:Int}(hY:Y n)(hn:σ[n]?=some (.iter (qa7 l)))(hp:pv l=some (r,out)):
    Calls W Y (k+1) fr σ (.glob (.ref A8)) [.loc n] [] [] (.int r) (σ.set n (.iter (qa7 out))):=by
  cases l with
  | nil=>cases hp
  | cons b rest=>
    refine Ib7 (τ:=[]) (F.f8 (.loc n)) (m':=[]) (fl:=.ret (.int r)) (fun cd env _=>?_) (by simp) (fun c1 c2=>⟨rfl,qe3 c1 (qf5 out)⟩);have hnx:σ[n]?=some (.iter (.int b::qa7 rest)):=hn;have hp':qko (b % 64) b rest=some (r,out):=hp;have hY':(fun m=>Y m\/σ.length<=m) n:=.inl hY;have hw:=qjc F (Y:=fun m=>Y m\/σ.length<=m) (cd:=cd) (k:=k) (fr:=env::fr) hY' rest (b % 64) b (σ.set n (.iter (qa7 rest))) (qbv hn) hp';rw[Db] at hw;have e1:AV.int (AE b 63)=.int (b % 64):=by rw[bitAnd_m6]
    rw[Bf];refine Exs.f (Iae (m2:=[some (.loc n),none,some (.int r),none]) ?_);show Exs _ _ _ _ _ (_::_) _ _ _;exact .(Exs.cons .(Ia5 .(Ev.call .(Iah 3 F.b_next) .(Kept.builtin) (Evs.cons .(Ia0 0) .(Evs.nil)) EvK.nil (Ica hnx hY')) .(Ia4 1)) .(Exs.cons .(Ia5 .(Iag .(Ia2 .(Ia0 1) .(Ia1) .(Op2.and)) (e1)) .(Ia4 2)) .(Exs.cons .(Iau (by with_unfolding_all exact WhileC.pre hw (by with_unfolding_all exact Ia6 8))) .(Exs.ret .(Iaj .(Ia0 2))))))
theorem qhy (F:Fac W)(hY:Y n)(hn:σ[n]?=some (.iter [])):
    CallsR W Y (k+1) fr σ (.glob (.ref A8)) [.loc n] [] [] false "StopIteration" (fun us=>us=[]) (σ.set n .iterDone):=by
  refine (F.f8 (.loc n)).callsR (mk:=true) (m':=[some (.loc n),none,none,none]) fun cd env _=>?_
  have hY':(fun m=>Y m\/σ.length<=m) n:=.inl hY;show ExsR _ _ _ _ _ (_::_) _ _ _ _ _;refine ExsR.head ?_;with_reducible exact Id0 .(EvR.call .(Iah 3 F.b_next) .(Kept.builtin) (Evs.cons .(Ia0 0) .(Evs.nil)) EvK.nil (Icu hn hY'))
noncomputable def Reads:List Int->List Int->Prop
  | [],l=>l=[]
  | n::ns,l=>∃out,pv l=some (n,out)/\Reads ns out
noncomputable def qi6 (t j:Nat):List (Option AV):=[some (.loc t),some (.loc j),none,none,none,none]
theorem qb4 {a:Int}{c:Int}(h:i<n):(AIt.range a c n).items[i]?=some (.int (a+(i:Nat)*c)):=by
  simp[AIt.items,h]
noncomputable def ta14:PSigma (fun l=>(qbl (nth (qbp (nth bd14.1 0)) 0))=l):=⟨_,by conv=>lhs;whnf⟩
noncomputable def bo14:PSigma (fun l=>(qbp (nth (qbp (nth bd14.1 0)) 0))=l):=⟨_,by conv=>lhs;whnf⟩
theorem qmv (F:Fac W){t:Nat}(hYt:Y t)(hYj:Y j)(htj:t≠j):∀(ns done l:List Int) (i:Nat) (σ:List AObj),σ[t]?=some (.iter (qa7 l))->σ[j]?=some (.lst (qa7 done))->Reads ns l->i+ns.length<20->done.length+ns.length<=1000 ->
    ForR ⟨W,Y,nm14.1,cd⟩ (k+1) fr ta14.1 bo14.1 [] (.range 0 1 20) i (qi6 t j) σ "StopIteration" (fun us=>us=[]) (qi6 t j) ((σ.set j (.lst (qa7 (done++ns)))).set t .iterDone):=by
  intro ns;induction ns with
  | nil=>
    intro done l i σ ht hj hr hi hz;obtain rfl:l=[]:=hr;rw[Bf,qh7 hj];have hi:i<20:=by simpa using hi
    refine ForR.here (m1:=(qi6 t j).set 2 (some (.int (0+(i:Nat)*1)))) (z1:=σ) Bb rfl (qb4 hi) nofun ?_ ?_
    . show As _ _ _ _ _ (.Name _ _) _ _ _;exact .(Ia4 2)
    . have hc:=qhy F (k:=k) (fr:=fr) hYt ht;have hkp:=(F.f8 .none).kept;refine ExsR.post (m2:=(qi6 t j).set 2 (some (.int (0+(i:Nat)*1)))) ?_ (Weak.set rfl);show ExsR _ _ _ _ _ (_::_) _ _ _ _ _;refine ExsR.head ?_;with_reducible exact ExR.expr .(Id2 .(Ia0 1) (by exact Meth.append (Lv.loc hj)) Kept.builtin .(EvR.call .(Iac 4 F.g_parse_varint) hkp (Evs.cons .(Ia0 0) .(Evs.nil)) EvK.nil hc))
  | cons n ns ih=>
    intro done l i σ ht hj hr hi hz;refine qa5 (hr) ?_;(try clear hr);intro out hp hr;have hi':i+(ns.length+1)<20:=hi;have hi:i<20:=by lia
    have hc:=qhz F (k:=k) (fr:=fr) hYt ht hp;have hkp:=(F.f8 .none).kept;have hj':(σ.set t (.iter (qa7 out)))[j]?=some (.lst (qa7 done)):=by rw[qaw htj];exact hj
    have ht':((σ.set t (.iter (qa7 out))).set j (.lst (qa7 done++[.int n])))[t]?=some (.iter (qa7 out)):=by rw[qaw (BH htj)];exact qbv ht
    have hw:=ih (done++[n]) out (i+1) _ ht' (by rw[qbv hj'];simp[qa7]) hr (by lia) (by simp at hz ⊢;lia);have e:(((((σ.set t (.iter (qa7 out))).set j (.lst (qa7 done++[.int n])))).set j (.lst (qa7 (done++[n]++ns)))).set t .iterDone)=(σ.set j (.lst (qa7 (done++n::ns)))).set t .iterDone:=by
      rw[Db,EL _ _ htj,Db];simp
    rw[e] at hw;have hzz:(qa7 done).length<=Ai:=by rw[qa7,Ab,Ay];lia
    refine ForR.next (m1:=(qi6 t j).set 2 (some (.int (0+(i:Nat)*1)))) (m2:=(qi6 t j).set 2 (some (.int (0+(i:Nat)*1)))) (z1:=σ) Bb rfl (qb4 hi) nofun ?_ ?_ (hw.pre (Weak.set rfl))
    . show As _ _ _ _ _ (.Name _ _) _ _ _;exact .(Ia4 2)
    . show Exs _ _ _ _ _ (_::_) _ _ _;exact .(Exs.cons .(Ex.expr .(Ial .(Ia0 1) (Meth.append (Lv.loc hj)) .(Kept.builtin) (Evs.cons .(Ev.call .(Iac 4 F.g_parse_varint) (hkp) (Evs.cons .(Ia0 0) .(Evs.nil)) EvK.nil (hc)) .(Evs.nil)) (by with_unfolding_all exact (Calls.append hj' hYj rfl hzz)))) .(Exs.nil))
theorem qlj (F:Fac W){t:Nat}{ns l:List Int}(hYt:Y t)(hYj:Y j)(htj:t≠j)(ht:σ[t]?=some (.iter (qa7 l)))(hj:σ[j]?=some (.lst []))(hr:Reads ns l)(hz:ns.length<20):
    Calls W Y (k+2) fr σ (.glob (.ref A14)) [.loc t,.loc j] [] [] (.loc j) ((σ.set j (.lst (qa7 ns))).set t .iterDone):=by
  have hjl:j<σ.length:=(Ap.mp hj).1;refine Ib7 (τ:=[]) (F.f14 (.loc t) (.loc j)) (m':=qi6 t j) (fl:=.ret (.loc j)) (fun cd env _=>?_) (by simp) (fun c1 c2=>⟨?_,qe3 (qe3 c1 (qf5 ns)) rfl⟩)
  . have hYt':(fun m=>Y m\/σ.length<=m) t:=.inl hYt;have hYj':(fun m=>Y m\/σ.length<=m) j:=.inl hYj;have hl:=qmv F (Y:=fun m=>Y m\/σ.length<=m) (cd:=cd) (k:=k) (fr:=env::fr) hYt' hYj' htj ns [] l 0 σ ht hj hr (by lia) (by simp;lia);rw[Bf];rw[CX] at hl;show ExsF _ _ _ _ _ _ (_::_) _ _ _;refine ExsF.ret ?_;show ExF _ _ _ _ _ _ (.Try (_::_) _ _ _ _) _ _ _;with_reducible refine Idg (i:=5) (j:=1) (X := "StopIteration") (T := "StopIteration") (P:=fun us=>us=[]) (m1:=qi6 t j) ?_ (by decide) (by decide) (by rw[BU];kernel_rfl) (by rw[BU];kernel_rfl) (by rw[BU];kernel_rfl) Uu F.b_StopIteration.g F.b_StopIteration.b Uu Uu
    with_reducible exact ExsR.head .(Idy .(ItE.call .(Iah 3 F.b_range) .(Kept.type) (Evs.cons .(Ia1) .(Evs.nil)) .(Iam (by decide))) (by with_unfolding_all exact hl))
  . show AV.loc j=frz σ.length _ (.loc j);exact (qc2 (.loc j) (decide_eq_true hjl)).symm
end
section
noncomputable def flagNames:List Str:=["OPTIMIZED", "NEWLOCALS", "VARARGS", "VARKEYWORDS", "NESTED", "GENERATOR", "NOFREE", "COROUTINE", "ITERABLE_COROUTINE", "ASYNC_GENERATOR"]
noncomputable def qci (p:Nat):Str:=if p<10 then flagNames.getD p "" else DY "0x" 16 (2 ^ p)
noncomputable def qps (p:Nat):Str:=(((flagTab.map (·.1)).zip (flagTab.map (·.2))).lookup (2 ^ p)).getD (DY "0x" 16 (2 ^ p))
theorem qjz:∀p:Fin 32,qps p=qci p:=by decide +kernel
theorem qd7:∀p:Fin 32,(qci p).length<=30/\(DY "0x" 16 (2 ^ (p:Nat))).length<=100/\Bt (qci p)=true:=by decide +kernel
theorem qpa (p:Fin 10):(qb9 flagNames)[(p:Nat)]?=some (.str (qci p)):=by
  rw[qci,if_pos p.2,qb9,Aj,Ae,Ad (show (p:Nat)<flagNames.length from p.2)];rfl
noncomputable def qaz (ps:List Nat):List Str:=if ps=[] then ["0x0"] else ps.map qci
theorem qgo (hps:∀p∈ps,p<32)(hz:ps.length<=100):((qaz ps).map (·.length)).sum+(qaz ps).length*(BP ", ").length<=16777216:=by
  have key:∀(l:List Nat),(∀p∈l,p<32)->((l.map qci).map (·.length)).sum<=30*l.length:=by
    intro l;induction l with
    | nil=>intro _;simp
    | cons a l ih=>
      intro h;have h1:=(qd7 ⟨a,h a Am⟩).1;have h2:=ih fun p hp=>h p (Az _ hp)
      simp only[Bz,Cr,BY] at h1 ⊢;lia
  have hc:(BP ", ").length=2:=by decide
  rw[hc];unfold qaz;split
  . decide
  . have:=key ps hps;rw[Ab];lia
theorem qla (F:Fac W)(hps:∀p∈ps,p<32)(hz:ps.length<=100):Exs ⟨W,Y,nm15.1,cd⟩ k fr [some (.lst (ps.map fun p=>.int (p:Nat))),none,none] σ bd15.1 (.ret (.str (DN ", " (qaz ps)))) [] σ:=by
  refine Iae (m2:=([some (.lst (ps.map fun p=>.int (p:Nat))),none,none].set 1 (some (.lst (qb9 flagNames)))).set 2 (some (.lst (ps.map fun p=>.str (qci p))))) ?_;show Exs _ _ _ _ _ (_::_) _ _ _;have hw1:∀p∈ps,decide ((p:Int)<10)=true->(qb9 flagNames)[p]?=some (.str (qci p)):=fun p hp h=>by
    have h:p<10:=by simp at h;lia
    exact qpa ⟨p,h⟩
  have hw2:∀p∈ps,decide ((p:Int)<10)=false->AV.str (DY "0x" 16 (2 ^ (p:Int).toNat))=.str (qci p):=fun p hp h=>by
    have h:¬p<10:=by simp at h;lia
    rw[qci,if_neg h];rfl
  have hw3:∀p∈ps,(DY "0x" 16 (2 ^ (p:Int).toNat)).length<=Ai:=fun p hp=>by
    have:=(qd7 ⟨p,hps p hp⟩).2.1;exact Af this (by decide)
  have hp0:∀p:Nat,(0:Int)<=p/\((p<32)->(p:Int)<=1000000):=fun p=>⟨by simp +arith,by lia⟩
  have hsp:Txt.words "OPTIMIZED NEWLOCALS VARARGS VARKEYWORDS NESTED GENERATOR NOFREE COROUTINE ITERABLE_COROUTINE ASYNC_GENERATOR"=flagNames:=by decide +kernel
  have hs1:(BP "OPTIMIZED NEWLOCALS VARARGS VARKEYWORDS NESTED GENERATOR NOFREE COROUTINE ITERABLE_COROUTINE ASYNC_GENERATOR").length<=Ai:=by decide +kernel
  have hs2:(PySem.Builtin.Str.spaceWords "OPTIMIZED NEWLOCALS VARARGS VARKEYWORDS NESTED GENERATOR NOFREE COROUTINE ITERABLE_COROUTINE ASYNC_GENERATOR" ((BP "OPTIMIZED NEWLOCALS VARARGS VARKEYWORDS NESTED GENERATOR NOFREE COROUTINE ITERABLE_COROUTINE ASYNC_GENERATOR").length+1)).length<=Ai:=by decide +kernel
  have hpf:plain (.lst (qb9 flagNames))=true:=by decide +kernel
  have hzz:ps.length<=2 ^ 20:=by lia
  have hnz:(qb9 flagNames).length<=Ai:=by decide +kernel
  have hD:D1 64 (.lst (ps.map fun p=>AV.str (qci p))):=D1.lst (d:=63) fun p hp=>D1.str (qd7 ⟨p,hps p hp⟩).2.2
  have hne:(decide (ps≠[]))=true↔AV.lst (ps.map fun p=>AV.str (qci p))≠.lst []:=by
    rw[decide_eq_true_iff];constructor
    . intro h e;injection e with e;exact h (E6.mp e)
    . intro h e;exact h (by rw[e];rfl)
  have he1:decide (ps≠[])=true->AV.lst (ps.map fun p=>AV.str (qci p))=.lst (qb9 (qaz ps)):=fun h=>by
    rw[qaz,if_neg (of_decide_eq_true h),qb9,Bv];rfl
  have he2:decide (ps≠[])=false->AV.lst [.str "0x0"]=.lst (qb9 (qaz ps)):=fun h=>by
    rw[qaz,if_pos (Decidable.not_not.mp (of_decide_eq_false h))];rfl
  exact .(Exs.cons .(Ia5 .(Ial .(Ia8) (by exact Ide) .(Kept.builtin) Evs.nil (by with_unfolding_all exact (Id7 hsp hs1 hs2))) .(Ic4 1 (hp:=(by assumption)))) .(Exs.cons .(Ib8 (i:=2) Uu .(ItE.list .(Ia0 0) .(Lv.fz)) (CompIn.of [none,none,none,some 1] (by kernel_rfl) (by kernel_rfl)) .(CompC.map (hp:=by with_unfolding_all exact qae (fun _=>rfl) _) (hz:=by assumption) Uu (ps) ((fun p:Nat=>AV.int p)) ((fun p=>AV.str (qci p))) _ (fun x hx=>.(Ia4 1)) (fun x hx=>.(Ib9 .(Ia3 .(Ia0 1) .(Ia1) .(Op2.lt)) (fun hc=>.(Ia9 .(Iad 3) .(Ia0 1) .(Lv.fz) (by exact qbc rfl (hw1 x hx hc)) (by exact hnz))) (fun hc=>.(Iag .(Ev.call .(Iah 2 F.b_hex) .(Kept.builtin) (Evs.cons .(Ia2 .(Ia1) .(Ia0 1) (Ic7 (hp0 x).1 ((hp0 x).2 (hps x hx)) (by decide))) .(Evs.nil)) EvK.nil (Ibx (hw3 x hx))) (hw2 x hx hc))))) .(fun _=>Weak.set Uu)) .(qae (fun _=>Uu) _)) .(Exs.ret .(Iaj .(Ial .(Ia8) (by exact Meth.join) .(Kept.builtin) (Evs.cons .(Ib9 .(Ia3 .(Ia0 2) .(Ev.list Evs.nil) (Ics (Dv.of hD) (Dv.of D1.nil) hne)) (fun hc=>.(Iag .(Ia0 2) (he1 hc))) (fun hc=>.(Iag .(Ev.list (Evs.cons .(Ia8) .(Evs.nil))) (he2 hc)))) .(Evs.nil)) (by with_unfolding_all exact (Calls.join Lv.fz (qgo hps hz))))))))
theorem qjb (F:Fac W)(hps:∀p∈ps,p<32)(hz:ps.length<=100):Calls W Y (k+1) fr σ (.glob (.ref A15)) [.lst (ps.map fun p=>.int (p:Nat))] [] [] (.str (DN ", " (qaz ps))) σ:=
  Iax (F.f15 _ (qa3 (fun _=>rfl) _)) (fun cd env _=>(qla F hps hz).f) rfl rfl
noncomputable def qa8 (ps:List Nat):Int:=(ps.map fun p=>(2:Int) ^ p).sum
theorem qcf (p:Nat)(ps:List Nat):qa8 (p::ps)=2 ^ p+qa8 ps:=by simp[qa8]
theorem qdm (p:Nat):(0:Int)<2 ^ p:=Int.pow_pos (by decide)
theorem qe1:(∀p∈ps,i<=p)->∃q:Int,0<=q/\qa8 ps=2 ^ i*q:=by
  induction ps with
  | nil=>exact fun _=>⟨0,by decide,by simp[qa8]⟩
  | cons p ps ih=>
    intro h;refine qa5 (ih fun p hp=>h p (Az _ hp)) ?_;intro q h1 h2;have hp:=h p Am;refine ⟨2 ^ (p - i)+q,by have:=qdm (p - i);lia,?_⟩;rw[qcf,h2,Int.mul_add,<- Int.pow_add,B0 hp]
theorem qk0 (h:ps≠[]):0<qa8 ps:=by
  cases ps with
  | nil=>exact absurd rfl h
  | cons p ps=>
    refine qa5 (qe1 (i:=0) (ps:=ps) fun _ _=>AI _) ?_;intro q h1 h2;rw[qcf,h2];have:=qdm p;simp at *;lia
theorem qu8 (h:∀p∈ps,i+1<=p):(AE (qa8 ps) (2 ^ i) != 0)=false:=by
  refine qa5 (qe1 h) ?_;intro q h1 h2;rw[kbt_bit,h2,Gi,Int.mul_assoc,Int.mul_ediv_cancel_left _ (Gj (qdm i))];have:(2*q) % 2=0:=by simp +arith
  rw[this];simp
theorem qon (h:∀p∈ps,i+1<=p):AE (qa8 (i::ps)) (2 ^ i)=2 ^ i/\Fq (qa8 (i::ps)) (2 ^ i)=qa8 ps:=by
  refine qa5 (qe1 h) ?_;intro q h1 h2;have e:AE (qa8 (i::ps)) (2 ^ i)=2 ^ i:=by
    have e2:qa8 (i::ps)=2 ^ i*(1+2*q):=by
      rw[qcf,h2,Gi,Int.mul_add,Int.mul_one,Int.mul_assoc]
    rw[kbt_bit,e2,Int.mul_ediv_cancel_left _ (Gj (qdm i))];have:(1+2*q) % 2=1:=by simp +arith
    rw[this,Int.one_mul]
  refine ⟨e,?_⟩;rw[bitXor_and,e,qcf];simp +arith
noncomputable def ta7:PSigma (fun l=>(qbl (nth bd7.1 1))=l):=⟨_,by conv=>lhs;whnf⟩
noncomputable def bo7:PSigma (fun l=>(qbp (nth bd7.1 1))=l):=⟨_,by conv=>lhs;whnf⟩
noncomputable def el7:PSigma (fun l=>(qo8 (nth bd7.1 1))=l):=⟨_,by conv=>lhs;whnf⟩
section
variable (F : Fac W)
noncomputable def flM (f:Int) (j:Nat):List (Option AV):=[some (.int f),some (.loc j),none,none,none,none,none]
theorem qo6 (hi:i<32):(0:Int)<=0+(i:Nat)*1/\(0:Int)+(i:Nat)*1<=1000000/\AV.int (1*2 ^ ((0:Int)+(i:Nat)*1).toNat)=.int (2 ^ i):=by
  refine ⟨by simp +arith,by lia,?_⟩;have:((0:Int)+(i:Nat)*1).toNat=i:=by simp +arith
  rw[this,Int.one_mul]
theorem qty (hi:i<32)(h:∀p∈ps,i+1<=p):Exs ⟨W,Y,nm7.1,cd⟩ k fr ((flM (qa8 ps) j).set 2 (some (.int (0+(i:Nat)*1)))) σ bo7.1 .next (flM (qa8 ps) j) σ:=by
  refine Exs.post (m2:=((flM (qa8 ps) j).set 2 (some (.int (0+(i:Nat)*1)))).set 3 (some (.int (2 ^ i)))) ?_ (by with_unfolding_all exact Ia6 124);refine qgj (qo6 hi) ?_;intro h1 h2 h3;have hb:=qu8 h;show Exs _ _ _ _ _ (_::_) _ _ _;exact .(Exs.cons .(Ia5 .(Iag .(Ia2 .(Ia1) .(Ia0 2) (Icz h1 h2 (by decide))) (h3)) .(Ia4 3)) .(Exs.cons .(Ia7 (c:=false) .(Iaa .(Tr.val .(Ia2 .(Ia0 0) .(Ia0 3) .(Op2.and)) (Tv.int)) hb) (fun h=>nomatch h) (fun _=>.(Exs.nil))) .(Exs.nil)))
theorem qo5 (hi:i<32):AV.str ((((flagTab.map (·.1)).zip (flagTab.map (·.2))).lookup ((2:Int) ^ i)).getD (DY "0x" 16 (2 ^ i)))=.str (qci i):=congrArg AV.str (qjz ⟨i,hi⟩)
theorem qqo (hi:i<32):(DY "0x" 16 (2 ^ i)).length<=Ai:=Af (qd7 ⟨i,hi⟩).2.1 (by decide)
include F in
theorem qrz (hi:i<32){acc:List Str}(hj:σ[j]?=some (.lst (qb9 acc)))(hY:Y j)(hz:acc.length<=100):Exs ⟨W,Y,nm7.1,cd⟩ k fr ((flM (qa8 [i]) j).set 2 (some (.int (0+(i:Nat)*1)))) σ bo7.1 .brk [none,some (.loc j),none,none,none,none,none] (σ.set j (.lst (qb9 acc++[.str (qci i)]))):=by
  refine Exs.post (m2:=(((flM (qa8 [i]) j).set 2 (some (.int (0+(i:Nat)*1)))).set 3 (some (.int (2 ^ i)))).set 0 (some (.int (qa8 [])))) ?_ (by with_unfolding_all exact Ia6 125);refine qgj (qo6 hi) ?_;intro h1 h2 h3;refine AD ?_ (qon (i:=i) (ps:=[]) (fun _ h=>absurd h CJ));intro hb hx;have ht:(AE (qa8 [i]) (2 ^ i) != 0)=true:=by rw[hb];simp;exact Gj (qdm i)
  have hx':AV.int (Fq (qa8 [i]) (2 ^ i))=.int (qa8 []):=congrArg AV.int hx;have hn:(!(qa8 [] != 0))=true:=by decide
  have hzz:(qb9 acc).length<=Ai:=by rw[qb9,Ab,Ay];lia
  have hg:=qo5 hi;have hh:=qqo hi;show Exs _ _ _ _ _ (_::_) _ _ _;exact .(Exs.cons .(Ia5 .(Iag .(Ia2 .(Ia1) .(Ia0 2) (Icz h1 h2 (by decide))) (h3)) .(Ia4 3)) .(Exs.brk .(Ia7 (c:=true) .(Iaa .(Tr.val .(Ia2 .(Ia0 0) .(Ia0 3) .(Op2.and)) (Tv.int)) ht) (fun _=>.(Exs.cons .(Ex.expr .(Ial .(Ia0 1) (by exact Meth.append .(Lv.loc (by assumption))) .(Kept.builtin) (Evs.cons .(Ial .(Iac 5 F.g_COMPILER_FLAG_NAMES) (by exact MethOk.tab F.tab) .(Kept.builtin) (Evs.cons .(Ia0 3) .((Evs.cons .(Ev.call .(Iah 6 F.b_hex) .(Kept.builtin) (Evs.cons .(Ia0 3) .(Evs.nil)) EvK.nil (Ibx hh)) .(Evs.nil)))) (by with_unfolding_all exact (Iap (Calls.get F.tab) hg rfl))) .(Evs.nil)) (by with_unfolding_all exact (Calls.append hj hY rfl hzz)))) .(Exs.cons .(Idb (i:=0) Uu Uu .(Ia0 3) (Ic2 Id9 hx') Uu) .(Exs.brk .(Ia7 (c:=true) .(Iaa .(Ick .(Tr.val .(Ia0 0) (Tv.int))) hn) (fun _=>.(Exs.brk .(Ido))) (fun h=>nomatch h)))))) (fun h=>nomatch h))))
include F in
theorem qrx (hi:i<32)(h:∀p∈ps,i+1<=p)(hne:ps≠[]){acc:List Str}(hj:σ[j]?=some (.lst (qb9 acc)))(hY:Y j)(hz:acc.length<=100):Exs ⟨W,Y,nm7.1,cd⟩ k fr ((flM (qa8 (i::ps)) j).set 2 (some (.int (0+(i:Nat)*1)))) σ bo7.1 .next (flM (qa8 ps) j) (σ.set j (.lst (qb9 acc++[.str (qci i)]))):=by
  refine Exs.post (m2:=(((flM (qa8 (i::ps)) j).set 2 (some (.int (0+(i:Nat)*1)))).set 3 (some (.int (2 ^ i)))).set 0 (some (.int (qa8 ps)))) ?_ (by with_unfolding_all exact Ia6 124);refine qgj (qo6 hi) ?_;intro h1 h2 h3;refine AD ?_ (qon (i:=i) (ps:=ps) h);intro hb hx;have ht:(AE (qa8 (i::ps)) (2 ^ i) != 0)=true:=by rw[hb];simp;exact Gj (qdm i)
  have hx':AV.int (Fq (qa8 (i::ps)) (2 ^ i))=.int (qa8 ps):=congrArg AV.int hx;have hn:(!(qa8 ps != 0))=false:=by have:=qk0 hne;simp;lia
  have hzz:(qb9 acc).length<=Ai:=by rw[qb9,Ab,Ay];lia
  have hg:=qo5 hi;have hh:=qqo hi;show Exs _ _ _ _ _ (_::_) _ _ _;exact .(Exs.cons .(Ia5 .(Iag .(Ia2 .(Ia1) .(Ia0 2) (Icz h1 h2 (by decide))) (h3)) .(Ia4 3)) .(Exs.cons .(Ia7 (c:=true) .(Iaa .(Tr.val .(Ia2 .(Ia0 0) .(Ia0 3) .(Op2.and)) (Tv.int)) ht) (fun _=>.(Exs.cons .(Ex.expr .(Ial .(Ia0 1) (by exact Meth.append .(Lv.loc (by assumption))) .(Kept.builtin) (Evs.cons .(Ial .(Iac 5 F.g_COMPILER_FLAG_NAMES) (by exact MethOk.tab F.tab) .(Kept.builtin) (Evs.cons .(Ia0 3) .((Evs.cons .(Ev.call .(Iah 6 F.b_hex) .(Kept.builtin) (Evs.cons .(Ia0 3) .(Evs.nil)) EvK.nil (Ibx hh)) .(Evs.nil)))) (by with_unfolding_all exact (Iap (Calls.get F.tab) hg rfl))) .(Evs.nil)) (by with_unfolding_all exact (Calls.append hj hY rfl hzz)))) .(Exs.cons .(Idb (i:=0) Uu Uu .(Ia0 3) (Ic2 Id9 hx') Uu) .(Exs.cons .(Ia7 (c:=false) .(Iaa .(Ick .(Tr.val .(Ia0 0) (Tv.int))) hn) (fun h=>nomatch h) (fun _=>.(Exs.nil))) .(Exs.nil))))) (fun h=>nomatch h)) .(Exs.nil)))
theorem qpt {f:Int}:As ⟨W,Y,nm7.1,cd⟩ k fr (flM f j) σ ta7.1 (.int (0+(i:Nat)*1)) ((flM f j).set 2 (some (.int (0+(i:Nat)*1)))) σ:=by
  show As _ _ _ _ _ (.Name _ _) _ _ _;exact .(Ia4 2)
include F in
theorem qry:∀(n i:Nat) (rem:List Nat) (acc:List Str) (σ:List AObj),i+n=32->rem≠[]->(∀p∈rem,i<=p/\p<32)->rem.Pairwise (· < ·)->σ[j]?=some (.lst (qb9 acc))->Y j->acc.length+n<=100 ->
    ForC ⟨W,Y,nm7.1,cd⟩ k fr ta7.1 bo7.1 el7.1 (.range 0 1 32) i (flM (qa8 rem) j) σ .next [none,some (.loc j),none,none,none,none,none] (σ.set j (.lst (qb9 (acc++rem.map qci)))):=by
  intro n;induction n with
  | zero=>
    intro i rem acc σ hi hne hr hs hj hY hz;cases rem with
    | nil=>exact absurd rfl hne
    | cons p ps=>have:=hr p Am;lia
  | succ n ih=>
    intro i rem acc σ hi hne hr hs hj hY hz;have hi':i<32:=by lia
    cases rem with
    | nil=>exact absurd rfl hne
    | cons p ps=>
      have hp:=hr p Am;rw[A6] at hs;by_cases hpi:p=i
      . subst hpi;by_cases hps:ps=[]
        . subst hps;have:=ForC.brk (orelse:=el7.1) (m:=flM (qa8 [p]) j) (k:=k) (fr:=fr) (ai:=.range 0 1 32) Bb rfl (qb4 hi') nofun (qpt (W:=W) (Y:=Y) (cd:=cd) (i:=p) (σ:=σ)) (qrz F hi' hj hY (by lia));simpa [qb9] using this
        . have h:=ih (p+1) ps (acc++[qci p]) (σ.set j (.lst (qb9 acc++[.str (qci p)]))) (by lia) hps (fun q hq=>⟨hs.1 q hq,(hr q (Az _ hq)).2⟩) hs.2 (by rw[qbv hj];simp[qb9]) hY (by simp;lia);rw[Db,AX] at h;exact ForC.next Bb rfl (qb4 hi') nofun qpt (qrx F hi' (fun q hq=>hs.1 q hq) hps hj hY (by lia)) h
      . have h:=ih (i+1) (p::ps) acc σ (by lia) hne (fun q hq=>⟨by
          rcases AS.mp hq with rfl | hq
          . lia
          . have:=hs.1 q hq;lia,(hr q hq).2⟩) (A6.mpr hs) hj hY (by lia)
        exact ForC.next Bb rfl (qb4 hi') nofun qpt (qty hi' fun q hq=>by
          rcases AS.mp hq with rfl | hq
          . lia
          . have:=hs.1 q hq;lia) h
include F in
theorem qrw:∀(n i:Nat) (σ:List AObj),i+n=32->σ[j]?=some (.lst [])->Y j ->
    ForC ⟨W,Y,nm7.1,cd⟩ k fr ta7.1 bo7.1 el7.1 (.range 0 1 32) i (flM (qa8 []) j) σ .next [none,some (.loc j),none,none,none,none,none] (σ.set j (.lst [.str "0x0"])):=by
  intro n;induction n with
  | zero=>
    intro i σ hi hj hY;rw[show ([AV.str "0x0"]:List AV)=[]++[AV.str "0x0"] from rfl];refine ForC.done Bb (by simp[AIt.items];lia) (Exs.post (m2:=flM (qa8 []) j) ?_ (by with_unfolding_all exact Ia6 125));have hz0:(DY "0x" 16 (qa8 [])).length<=Ai:=by decide +kernel
    have hv0:AV.str (DY "0x" 16 (qa8 []))=.str "0x0":=congrArg AV.str (by decide +kernel);show Exs _ _ _ _ _ (_::_) _ _ _;exact .(Exs.cons .(Ex.expr .(Ial .(Ia0 1) (by exact Meth.append .(Lv.loc (by assumption))) .(Kept.builtin) (Evs.cons .(Ev.call .(Iah 6 F.b_hex) .(Kept.builtin) (Evs.cons .(Ia0 0) .(Evs.nil)) EvK.nil (Iap (Ibx hz0) hv0 rfl)) .(Evs.nil)) (by with_unfolding_all exact (Calls.append hj hY rfl (AI _))))) .(Exs.nil))
  | succ n ih=>
    intro i σ hi hj hY;have hi':i<32:=by lia
    exact ForC.next Bb rfl (qb4 hi') nofun qpt (qty hi' fun p hp=>by cases hp) (ih (i+1) σ (by lia) hj hY)
include F in
theorem qjy (hr:∀p∈ps,p<32)(hs:ps.Pairwise (· < ·))(hz:ps.length<=60):Calls W Y (k+1) fr σ (.glob (.ref A7)) [.int (qa8 ps)] [] [] (.str (DN ", " (qaz ps))) σ:=by
  refine Icg (τ:=[.lst (qb9 (qaz ps))]) (F.f7 (.int (qa8 ps))) (m':=[]) (fl:=.ret (.str (DN ", " (qaz ps)))) (fun cd env _=>?_) (fun _ _=>rfl);have hY':(fun m=>Y m\/σ.length<=m) σ.length:=.inr (Ak _);have hj:(σ++[AObj.lst []])[σ.length]?=some (.lst (qb9 [])):=by simp[qb9]
  have hl:ForC ⟨W,fun m=>Y m\/σ.length<=m,nm7.1,cd⟩ k (env::fr) ta7.1 bo7.1 el7.1 (.range 0 1 32) 0 (flM (qa8 ps) σ.length) (σ++[AObj.lst []]) .next [none,some (.loc σ.length),none,none,none,none,none] (σ++[.lst (qb9 (qaz ps))]):=by
    by_cases hps:ps=[]
    . subst hps;have:=qrw F (W:=W) (Y:=fun m=>Y m\/σ.length<=m) (cd:=cd) (k:=k) (fr:=env::fr) (j:=σ.length) 32 0 (σ++[AObj.lst []]) rfl (by simp) hY';simpa [qaz,qb9] using this
    . have:=qry F (Y:=fun m=>Y m\/σ.length<=m) (cd:=cd) (k:=k) (fr:=env::fr) (j:=σ.length) 32 0 ps [] (σ++[AObj.lst []]) rfl hps (fun p hp=>⟨AI _,hr p hp⟩) hs hj hY' (by simp);simpa [qaz,hps] using this
  have hL:Lv (σ++[AObj.lst (qb9 (qaz ps))]) (.loc σ.length) (qb9 (qaz ps)):=Lv.loc (by simp);have hwl:=qgo hr (by lia);refine Exs.f (Iae (m2:=[none,some (.loc σ.length),none,none,none,none,none]) ?_);show Exs _ _ _ _ _ (_::_) _ _ _;exact .(Exs.cons .(Ia5 .(Ian Evs.nil) .(Ia4 1)) .(Exs.cons .(Ib3 .(ItE.call .(Iah 4 F.b_range) .(Kept.type) (Evs.cons .(Ia1) .(Evs.nil)) .(Iam (by decide))) (by with_unfolding_all exact ForC.pre hl Weak.refl)) .(Exs.ret .(Iaj .(Ial .(Ia8) (by exact Meth.join) .(Kept.builtin) (Evs.cons .(Ia0 1) .(Evs.nil)) (by with_unfolding_all exact (Calls.join hL hwl)))))))
end
end
section
noncomputable abbrev atE:List Str:=["makeelement", "append", "inner", "attrib", "tag"]
theorem qed (F:Fac W){tag attr:AV}(hpt:plain tag=true)(hpa:plain attr=true):
    Calls W Y (k+1) fr σ (.glob (.ref A17)) [tag,attr] [] [] (.loc σ.length) (σ++[.elem atE [.glob (.ref A17),.bound "list.append" (.loc (σ.length+1)),.loc (σ.length+1),attr,tag],.lst []]):=by
  refine Ibl (F.f17 tag attr) (m':=[]) (fl:=.ret (.loc σ.length)) (fun cd env hK=>?_) (by simp) rfl rfl;refine qjj (hK) ?_;intro lc lP hLam;have hY:(fun m=>Y m\/σ.length<=m) σ.length:=.inr (Ak _);have e0:(σ++[AObj.fn0])[σ.length]?=some .fn0:=by simp
  have e1:(σ++[AObj.fn0]).set σ.length (.elem ["tag"] [tag])=σ++[.elem ["tag"] [tag]]:=by simp
  have g1:(σ++[AObj.elem ["tag"] [tag]])[σ.length]?=some (.elem ["tag"] [tag]):=by simp
  have e2:(σ++[AObj.elem ["tag"] [tag]]).set σ.length (.elem ["attrib", "tag"] [attr,tag])=σ++[.elem ["attrib", "tag"] [attr,tag]]:=by simp
  have l2:(σ++[AObj.elem ["attrib", "tag"] [attr,tag]]).length=σ.length+1:=by simp
  have g2:(σ++[AObj.elem ["attrib", "tag"] [attr,tag]]++[AObj.lst []])[σ.length]?=some (.elem ["attrib", "tag"] [attr,tag]):=by simp
  have e3:(σ++[AObj.elem ["attrib", "tag"] [attr,tag]]++[AObj.lst []]).set σ.length (.elem ["inner", "attrib", "tag"] [.loc (σ.length+1),attr,tag])=σ++[.elem ["inner", "attrib", "tag"] [.loc (σ.length+1),attr,tag],.lst []]:=by simp
  have v2:AV.loc (σ++[AObj.elem ["attrib", "tag"] [attr,tag]]).length=.loc (σ.length+1):=by rw[l2]
  have g3:(σ++[AObj.elem ["inner", "attrib", "tag"] [.loc (σ.length+1),attr,tag],.lst []])[σ.length]?=some (.elem ["inner", "attrib", "tag"] [.loc (σ.length+1),attr,tag]):=by simp
  have g3':(σ++[AObj.elem ["inner", "attrib", "tag"] [.loc (σ.length+1),attr,tag],.lst []])[σ.length+1]?=some (.lst []):=by simp
  have e4:(σ++[AObj.elem ["inner", "attrib", "tag"] [.loc (σ.length+1),attr,tag],.lst []]).set σ.length (.elem ["append", "inner", "attrib", "tag"] [.bound "list.append" (.loc (σ.length+1)),.loc (σ.length+1),attr,tag])=σ++[.elem ["append", "inner", "attrib", "tag"] [.bound "list.append" (.loc (σ.length+1)),.loc (σ.length+1),attr,tag],.lst []]:=by simp
  have g4:(σ++[AObj.elem ["append", "inner", "attrib", "tag"] [.bound "list.append" (.loc (σ.length+1)),.loc (σ.length+1),attr,tag],.lst []])[σ.length]?=some (.elem ["append", "inner", "attrib", "tag"] [.bound "list.append" (.loc (σ.length+1)),.loc (σ.length+1),attr,tag]):=by simp
  have e5:(σ++[AObj.elem ["append", "inner", "attrib", "tag"] [.bound "list.append" (.loc (σ.length+1)),.loc (σ.length+1),attr,tag],.lst []]).set σ.length (.elem atE [.glob (.ref A17),.bound "list.append" (.loc (σ.length+1)),.loc (σ.length+1),attr,tag])=σ++[.elem atE [.glob (.ref A17),.bound "list.append" (.loc (σ.length+1)),.loc (σ.length+1),attr,tag],.lst []]:=by simp
  refine Exs.f (Iae (m2:=[some tag,some attr,none,none].set 2 (some (.loc σ.length))) ?_);show Exs _ _ _ _ _ (_::_) _ _ _;exact .(Exs.cons .(Ia5 .(Ic9 (hLam _ _) (qnb (by kernel_rfl))) .(Ia4 2)) .(Exs.cons .(Ia5 .(Ia0 0) .(Ibp .(Icq .(Ia0 2) (by exact e0) qdr (by exact hY) (hp:=(by assumption))) e1)) .(Exs.cons .(Ia5 .(Ia0 1) .(Ibp .(Ic1 .(Ia0 2) (by exact g1) qao (by exact hY) (hp:=(by assumption))) e2)) .(Exs.cons .(Ia5 .(Iag .(Ian Evs.nil) (v2)) .(Ibp .(Ic1 .(Ia0 2) (by exact g2) qc0 (by exact hY) (hp:=Uu)) e3)) .(Exs.cons .(Ia5 .(Ev.bound .(Iab .(Ia0 2) (by assumption) Uu qc0) (by exact g3')) .(Ibp .(Ic1 .(Ia0 2) (by exact g3) qi1 (by exact hY) (hp:=Uu)) e4)) .(Exs.cons .(Ia5 .(Iac 3 F.g_law_element) .(Ibp .(Ic1 .(Ia0 2) (by exact g4) qds (by exact hY) (hp:=Uu)) e5)) .(Exs.ret .(Iaj .(Ia0 2)))))))))
noncomputable abbrev qaq (F:Addr) (inner attr tag:AV):List AV:=[.glob (.ref F),.bound "list.append" inner,inner,attr,tag]
theorem qkk (F:Fac W){p ip:Nat}{ks':List Str}{vs':List AV}{as:List Str}{avs:List AV}{tag base:AV}(hn:n=σ.length)(hp:σ[p]?=some (.elem as avs))(hm:(as.zip avs).lookup ("makeelement":Str)=some (.glob (.ref A17)))(ha:(as.zip avs).lookup ("append":Str)=some (.bound "list.append" (.loc ip)))(hi:σ[ip]?=some (.lst ch))(hYi:Y ip)(hY:∀m,σ.length<=m->Y m)(hD:Dsrc W σ base ks vs)(hpv:plains vs=true)(hpv':plains vs'=true)(hz:ks.length+ks'.length<=Ai)(hpt:plain tag=true)(hz2:ch.length<=Ai){mk:List Str}{mv:List AV}(hmk:(qag (qag [] [] ks vs).1 (qag [] [] ks vs).2 ks' vs')=(mk,mv)):
    Exs ⟨W,Y,nm11.1,cd⟩ (k+1) fr [some (.loc p),some tag,some base,some (.loc n),none] (σ++[.dstr ks' vs']) bd11.1 (.ret (.loc (n+2))) [] (σ.set ip (.lst (ch++[.loc (n+2)]))++[.dstr ks' vs',.dstr mk mv,.elem atE (qaq A17 (.loc (n+3)) (.loc (n+1)) tag),.lst []]):=by
  subst hn;have hD':Dsrc W (σ++[.dstr ks' vs']) base ks vs:=by
    rcases hD with ⟨j,h1,h2⟩ | h
    . exact .inl ⟨j,h1,qac h2⟩
    . exact .inr h
  have hE:Dsrc W (σ++[.dstr ks' vs']) (.loc σ.length) ks' vs':=.inl ⟨_,rfl,by simp⟩;have hmv1:(qag (qag [] [] ks vs).1 (qag [] [] ks vs).2 ks' vs').1=mk:=by rw[hmk]
  have hmv2:(qag (qag [] [] ks vs).1 (qag [] [] ks vs).2 ks' vs').2=mv:=by rw[hmk]
  have s1:(σ++[AObj.dstr ks' vs']++[.dstr (qag (qag [] [] ks vs).1 (qag [] [] ks vs).2 ks' vs').1 (qag (qag [] [] ks vs).1 (qag [] [] ks vs).2 ks' vs').2])=σ++[AObj.dstr ks' vs',.dstr mk mv]:=by rw[hmv1,hmv2];simp
  have v1:AV.loc (σ++[AObj.dstr ks' vs']).length=.loc (σ.length+1):=by simp
  have l2:(σ++[AObj.dstr ks' vs',.dstr mk mv]).length=σ.length+2:=by simp
  have hp2:(σ++[AObj.dstr ks' vs',.dstr mk mv])[p]?=some (.elem as avs):=qac hp;have hc:=qed F (Y:=Y) (k:=k) (fr:=fr) (σ:=σ++[AObj.dstr ks' vs',.dstr mk mv]) (tag:=tag) (attr:=.loc (σ.length+1)) hpt rfl;have hkp:=(F.f17 .none .none).kept;rw[l2] at hc;have s2:σ++[AObj.dstr ks' vs',.dstr mk mv]++[.elem atE [.glob (.ref A17),.bound "list.append" (.loc (σ.length+2+1)),.loc (σ.length+2+1),.loc (σ.length+1),tag],.lst []]=σ++[AObj.dstr ks' vs',.dstr mk mv,.elem atE (qaq A17 (.loc (σ.length+3)) (.loc (σ.length+1)) tag),.lst []]:=by simp[qaq]
  rw[s2] at hc;have hp3:(σ++[AObj.dstr ks' vs',.dstr mk mv,.elem atE (qaq A17 (.loc (σ.length+3)) (.loc (σ.length+1)) tag),.lst []])[p]?=some (.elem as avs):=qac hp;have hi3:(σ++[AObj.dstr ks' vs',.dstr mk mv,.elem atE (qaq A17 (.loc (σ.length+3)) (.loc (σ.length+1)) tag),.lst []])[ip]?=some (.lst ch):=qac hi;have s3:(σ++[AObj.dstr ks' vs',.dstr mk mv,.elem atE (qaq A17 (.loc (σ.length+3)) (.loc (σ.length+1)) tag),.lst []]).set ip (.lst (ch++[.loc (σ.length+2)]))=σ.set ip (.lst (ch++[.loc (σ.length+2)]))++[.dstr ks' vs',.dstr mk mv,.elem atE (qaq A17 (.loc (σ.length+3)) (.loc (σ.length+1)) tag),.lst []]:=set_app (qbn hi);have hb:=Iap (Calls.bound (W:=W) (Y:=Y) (k:=k+1) (fr:=fr) (v:=.loc (σ.length+2)) hi3 hYi rfl hz2) rfl s3;refine Iae (m2:=([some (.loc p),some tag,some base,some (.loc σ.length),none].set 2 (some (.loc (σ.length+1)))).set 4 (some (.loc (σ.length+2)))) ?_;show Exs _ _ _ _ _ (_::_) _ _ _;exact .(Exs.cons .(Ia5 .(Ibu .(Ie0 (i:=2) (j:=3) Uu Uu Uu Uu hD' hE hpv hpv' hz) s1 v1) .(Ia4 2)) .(Exs.cons .(Ia5 .(Ial .(Ia0 0) ((by exact MethOk.elem hp2 hm qds)) (hkp) (Evs.cons .(Ia0 1) .((Evs.cons .(Ia0 2) .(Evs.nil)))) (by with_unfolding_all exact (hc))) .(Ia4 4)) .(Exs.cons .(Ex.expr .(Ial .(Ia0 0) ((by exact MethOk.elem hp3 ha qi1)) .(Kept.bound) (Evs.cons .(Ia0 4) .(Evs.nil)) (by with_unfolding_all exact (hb)))) .(Exs.ret .(Iaj .(Ia0 4))))))
section
variable (F : Fac W) {p ip:Nat} {ks':List Str} {vs':List AV} {as:List Str} {avs:List AV} {tag base:AV}
include F in
theorem qss {t:Nat}(hp:σ[p]?=some (.elem as avs))(hm:(as.zip avs).lookup ("makeelement":Str)=some (.glob (.ref A17)))(ha:(as.zip avs).lookup ("append":Str)=some (.bound "list.append" (.loc ip)))(hi:σ[ip]?=some (.lst ch))(hYi:Y ip)(ht:σ[t]?=some (.dstr ks vs))(hpv:plains vs=true)(hpv':plains vs'=true)(hz:ks.length+ks'.length<=Ai)(hpt:plain tag=true)(hz2:ch.length<=Ai)(hnd:ks'.Nodup)(hl:ks'.length=vs'.length)(hx:∀x∈ks',x∉(["parent", "tag", "attrib"]:List Str)){mk:List Str}{mv:List AV}(hmk:(qag (qag [] [] ks vs).1 (qag [] [] ks vs).2 ks' vs')=(mk,mv)):
    Calls W Y (k+2) fr σ (.glob (.ref A11)) [.loc p,tag,.loc t] ks' vs' (.loc (σ.length+2)) (σ.set ip (.lst (ch++[.loc (σ.length+2)]))++[.dstr ks' vs',.dstr mk mv,.elem atE (qaq A17 (.loc (σ.length+3)) (.loc (σ.length+1)) tag),.lst []]):=
  FnX.calls (F.f11t (.loc p) tag (.loc t) ks' vs' hnd hl hpv' hx (by lia)) (fun cd env=>qkk F rfl hp hm ha hi (.inl hYi) (fun m hm=>.inr hm) (.inl ⟨t,rfl,ht⟩) hpv hpv' hz hpt hz2 hmk) (by simp) rfl rfl
include F in
theorem qst (hp:σ[p]?=some (.elem as avs))(hm:(as.zip avs).lookup ("makeelement":Str)=some (.glob (.ref A17)))(ha:(as.zip avs).lookup ("append":Str)=some (.bound "list.append" (.loc ip)))(hi:σ[ip]?=some (.lst ch))(hYi:Y ip)(hpv':plains vs'=true)(hz:ks'.length<=100)(hpt:plain tag=true)(hz2:ch.length<=Ai)(hnd:ks'.Nodup)(hl:ks'.length=vs'.length)(hx:∀x∈ks',x∉(["parent", "tag", "attrib"]:List Str)){mk:List Str}{mv:List AV}(hmk:(qag [] [] ks' vs')=(mk,mv)):
    Calls W Y (k+2) fr σ (.glob (.ref A11)) [.loc p,tag] ks' vs' (.loc (σ.length+2)) (σ.set ip (.lst (ch++[.loc (σ.length+2)]))++[.dstr ks' vs',.dstr mk mv,.elem atE (qaq A17 (.loc (σ.length+3)) (.loc (σ.length+1)) tag),.lst []]):=
  FnX.calls (F.f11d (.loc p) tag ks' vs' hnd hl hpv' hx (by rw[Ay];lia)) (fun cd env=>qkk F (ks:=[]) (vs:=[]) rfl hp hm ha hi (.inl hYi) (fun m hm=>.inr hm) (F.dsrc _) rfl hpv' (by rw[Ay];simp;lia) hpt hz2 hmk) (by simp) rfl rfl
include F in
theorem qnv {b:Bool}(hc:∀Y,Calls W Y k fr σ (.glob (.builtin "hasattr")) [v,.str "tag"] [] [] (.bool b) σ):Exs ⟨W,Y,nm10.1,cd⟩ k fr [some v,none] σ bd10.1 (.ret (.bool b)) [] σ:=by
  refine Iae (m2:=[some v,none]) ?_;have hc:=hc Y;show Exs _ _ _ _ _ (_::_) _ _ _;exact .(Exs.ret .(Iaj .(Ev.call .(Iah 1 F.b_hasattr) .(Kept.builtin) (Evs.cons .(Ia0 0) .((Evs.cons .(Ia8) .(Evs.nil)))) EvK.nil (hc))))
include F in
theorem qtt {b:Bool}(hc:∀k fr Y,Calls W Y k fr σ (.glob (.builtin "hasattr")) [v,.str "tag"] [] [] (.bool b) σ):Calls W Y (k+1) fr σ (.glob (.ref A10)) [v] [] [] (.bool b) σ:=
  Iax (F.f10 v) (fun cd env _=>(qnv F (hc k (env::fr))).f) rfl rfl
end
end
section
noncomputable abbrev qa0 (l:List Nat):List AV:=l.map fun w=>AV.int ((w:Nat):Int)
noncomputable abbrev qd1 (N:Nat) (f:Nat->Int):List AV:=(Ac N).map fun i=>AV.int (f i)
noncomputable def qb8 (f:Nat->Int) (p:Nat):Bool:=((f p).fdiv 7).fmod 2==1
noncomputable abbrev qd8 (b:Bool):Str:=if b then "b" else "a"
noncomputable def amI (f:Nat->Int) (p:Nat):Int:=((qab f p).map fun (x:Nat)=>(2:Int) ^ x).sum
noncomputable abbrev qdz (f:Nat->Int) (p:Nat):AV:=.tup [.str (qd8 (qb8 f p)),.int ((qab f p).length:Nat),.int (amI f p)]
noncomputable abbrev qas (N:Nat) (f:Nat->Int):List AV:=(Ac N).map (qdz f)
noncomputable def bef (f:Nat->Int):Nat->List Nat
  | 0=>[]
  | t+1=>qab f t ++ [t]
theorem qfu (f:Nat->Int):∀t,(qab f t).length<=t
  | 0=>Ak _
  | t+1=>Af (qdc f t).length_le (by rw[Ao];exact CL (qfu f t))
theorem qq7 (f:Nat->Int)(t:Nat):∃n:Nat,(f t).fmod (max ((bef f t).length:Nat) 1)+1=(n:Nat)/\(bef f t).take n=qab f t:=by
  have h0:(0:Int)<=(f t).fmod (max ((bef f t).length:Nat) 1):=BX _ (by omega);refine ⟨((f t).fmod (max ((bef f t).length:Nat) 1)+1).toNat,by omega,?_⟩;cases t with
  | zero=>exact List.take_nil
  | succ t=>
    show (qab f t ++ [t]).take _=(qab f t ++ [t]).take _;have:max (((bef f (t+1)).length:Nat):Int) 1=(((qab f t ++ [t]).length:Nat):Int):=by
      show max (((qab f t ++ [t]).length:Nat):Int) 1=_;rw[Ao,BJ];lia
    rw[this]
theorem qsp (f:Nat->Int)(p:Nat):(CN (((f p).fdiv 7).fmod 2) (BP "ab").length).bind ((BP "ab").cps[·]?)=some (if qb8 f p then 98 else 97)/\(decide (((f p).fdiv 7).fmod 2 < -(2 ^ 63:Int))||decide (((f p).fdiv 7).fmod 2 >= 2 ^ 63))=false:=by
  unfold qb8;obtain ⟨m,e,hm⟩:=qv1 (x:=(f p).fdiv 7) (n:=2) (by decide);rw[show ((f p).fdiv 7).fmod 2=(m:Int) from e];match m,hm with
  | 0,_=>decide +kernel
  | 1,_=>decide +kernel
theorem qqw (b:Bool):AV.str ⟨#[if b then 98 else 97]⟩=.str (qd8 b):=by cases b <;> rfl
noncomputable def qr0 (N:Nat) (f:Nat->Int) (ol pl:Nat):List (Option AV):=[some (.lst (qd1 N f)),some (.loc ol),some (.loc pl),none,none,none,none,none,none]
noncomputable def ta16:PSigma (fun l=>(qbl (nth bd16.1 1))=l):=⟨_,by conv=>lhs;whnf⟩
noncomputable def bo16:PSigma (fun l=>(qbp (nth bd16.1 1))=l):=⟨_,by conv=>lhs;whnf⟩
section
variable (F:Fac W) {t ol pl:Nat} {f:Nat->Int}
include F in
theorem qp6 (ht:t<N)(hN:N<=7)(ho:σ[ol]?=some (.lst (qas t f)))(hp:σ[pl]?=some (.lst (qa0 (bef f t))))(hYo:Y ol)(hYn:∀m,σ.length<=m->Y m):
    Exs ⟨W,Y,nm16.1,cd⟩ k fr (((qr0 N f ol pl).set 3 (some (.int (t:Nat)))).set 4 (some (.int (f t)))) σ bo16.1 .next (qr0 N f ol σ.length) (σ.set ol (.lst (qas (t+1) f)) ++ [.lst (qa0 (qab f t ++ [t]))]):=by
  refine Exs.post (m2:=((((qr0 N f ol pl).set 3 (some (.int (t:Nat)))).set 4 (some (.int (f t)))).set 2 (some (.loc σ.length)))) ?_ (by with_unfolding_all exact Ia6 504);obtain ⟨n,e1,e2⟩:=qq7 f t;have hlen:=qfu f t;have hbl:(bef f t).length<=t:=by
    cases t with
    | zero=>exact Ak _
    | succ t=>show (qab f t ++ [t]).length<=_;rw[Ao];exact CL (qfu f t)
  have hz0:(qa0 (bef f t)).length<=Ai:=by rw[Ab,Ay];lia
  have em:AV.int ((f t).fmod (max ((qa0 (bef f t)).length:Nat) 1)+1)=.int ((n:Nat):Int):=by rw[Ab];exact congrArg AV.int e1
  have hm0:max (((qa0 (bef f t)).length:Nat):Int) 1≠0:=by lia
  have es:qbq (qa0 (bef f t)) none (some ((n:Nat):Int)) none=qa0 (qab f t):=by
    rw[qp4,qfr,<- List.map_take,e2]
  have es1:σ ++ [AObj.lst (qbq (qa0 (bef f t)) none (some ((n:Nat):Int)) none)]=σ ++ [.lst (qa0 (qab f t))]:=by rw[es]
  have hpp:plains (qbq (qa0 (bef f t)) none (some ((n:Nat):Int)) none)=true:=by rw[es];exact qae (fun _=>rfl) _
  have hp1:(σ ++ [AObj.lst (qa0 (qab f t))])[σ.length]?=some (.lst (qa0 (qab f t))):=by simp
  have ho1:(σ ++ [AObj.lst (qa0 (qab f t))])[ol]?=some (.lst (qas t f)):=qac ho;have hz1:(qa0 (qab f t)).length<=Ai:=by rw[Ab,Ay];lia
  have hz2:(qab f t).length<=2 ^ 20:=by lia
  have hL1:Lv (σ ++ [AObj.lst (qa0 (qab f t))]) (.loc σ.length) (qa0 (qab f t)):=Lv.loc hp1;have hpw:∀x∈qab f t,(0:Int)<=(x:Nat)/\((x:Nat):Int)<=1000000:=fun x hx=>by have:=qb0 hx;lia
  have e3:∀l:List Nat,(l.map fun x:Nat=>AV.int ((2:Int) ^ ((x:Nat):Int).toNat))=qa7 (l.map fun (x:Nat)=>(2:Int) ^ x):=fun l=>by rw[qa7,Bv];rfl
  have hsum:Lv (σ ++ [AObj.lst (qa0 (qab f t))]) (.lst ((qab f t).map fun x:Nat=>AV.int ((2:Int) ^ ((x:Nat):Int).toNat))) (qa7 ((qab f t).map fun (x:Nat)=>(2:Int) ^ x)):=by rw[e3];exact Lv.fz
  obtain ⟨hc1,hc2⟩:=qsp f t;have htg:=qqw (qb8 f t);have elen:(((qa0 (qab f t)).length:Nat):Int)=(((qab f t).length:Nat):Int):=by rw[Ab]
  have eT:AV.tup [.str (qd8 (qb8 f t)),.int ((qa0 (qab f t)).length:Nat),.int ((qab f t).map fun (x:Nat)=>(2:Int) ^ x).sum]=qdz f t:=by rw[elen];rfl
  have hzo:(qas t f).length<=Ai:=by rw[Ab,AM,Ay];lia
  have hne:ol≠σ.length:=B9 (qbn ho);have ea:(σ ++ [AObj.lst (qa0 (qab f t))]).set ol (.lst (qas t f ++ [qdz f t]))=σ.set ol (.lst (qas (t+1) f)) ++ [.lst (qa0 (qab f t))]:=by
    rw[set_app (qbn ho),qas,qas,C0,A0];rfl
  have hp2:(σ.set ol (.lst (qas (t+1) f)) ++ [AObj.lst (qa0 (qab f t))])[σ.length]?=some (.lst (qa0 (qab f t))):=by
    have:=qax (σ:=σ.set ol (.lst (qas (t+1) f))) (τ:=[AObj.lst (qa0 (qab f t))]) (n:=σ.length) (j:=0) (by simp);rw[this];rfl
  have eb:(σ.set ol (.lst (qas (t+1) f)) ++ [AObj.lst (qa0 (qab f t))]).set σ.length (.lst (qa0 (qab f t) ++ [.int (t:Nat)]))=σ.set ol (.lst (qas (t+1) f)) ++ [.lst (qa0 (qab f t ++ [t]))]:=by
    have:=qda (σ:=σ.set ol (.lst (qas (t+1) f))) (τ:=[AObj.lst (qa0 (qab f t))]) (n:=σ.length) (j:=0) (x:=.lst (qa0 (qab f t) ++ [.int (t:Nat)])) (by simp);rw[this,qa0,qa0,A0];rfl
  have hYp:=hYn σ.length (Ak _);have ca:=Iap (Calls.append (W:=W) (Y:=Y) (k:=k) (fr:=fr) (v:=qdz f t) ho1 hYo rfl hzo) rfl ea;have cb:=Iap (Calls.append (W:=W) (Y:=Y) (k:=k) (fr:=fr) (v:=.int (t:Nat)) hp2 hYp rfl hz1) rfl eb;show Exs _ _ _ _ _ (_::_) _ _ _;exact .(Exs.cons .(Ia5 .(Ibu .(Id3 .(Ia0 2) EvO.none (Iao .(Ia2 .(Ia2 .(Ia0 4) .(Ev.call .(Iah 6 F.b_max) .(Kept.builtin) (Evs.cons .(Ev.call .(Iah 7 F.b_len) .(Kept.builtin) (Evs.cons .(Ia0 2) .(Evs.nil)) EvK.nil (Calls.len (Lv.loc hp) hz0)) .((Evs.cons .(Ia1) .(Evs.nil)))) EvK.nil (Ici)) (Iaw hm0)) .(Ia1) (Ic2 Iai em))) EvO.none (by exact Lv.loc hp) (by simp) (by exact hpp) (by exact hz0)) es1 rfl) .(Ia4 2)) .(Exs.cons .(Ex.expr .(Ial .(Ia0 1) (Meth.append (Lv.loc ho1)) .(Kept.builtin) (Evs.cons .(Iag .(Ev.tuple (Evs.cons .(Iag .(Iea .(Ia8) .(Ia2 .(Ia2 .(Ia0 4) .(Ia1) .(Iar (by decide) (by decide))) .(Ia1) .(Iaw (by decide))) hc1 hc2) (htg)) .((Evs.cons .(Ev.call .(Iah 7 F.b_len) .(Kept.builtin) (Evs.cons .(Ia0 2) .(Evs.nil)) EvK.nil (Calls.len hL1 hz1)) .((Evs.cons .(Ev.call .(Iah 8 F.b_sum) .(Kept.builtin) (Evs.cons .(Iak .(ItE.list .(Ia0 2) .(Lv.loc (by assumption))) (CompIn.of [none,none] (by kernel_rfl) (by kernel_rfl)) .(CompC.map Uu (qab f t) ((fun x:Nat=>AV.int x)) ((fun x:Nat=>AV.int ((2:Int) ^ ((x:Nat):Int).toNat))) _ (fun x hx=>.(Ia4 1)) (fun x hx=>.(Ia2 .(Ia1) .(Ia0 1) (Ic7 (hpw x hx).1 (hpw x hx).2 (by decide)))) .(fun _=>Weak.set Uu) (hO:=by with_unfolding_all exact Lv.loc (by assumption)) (hz:=by assumption))) .(Evs.nil)) EvK.nil (Calls.sum hsum)) .(Evs.nil))))))) (eT)) .(Evs.nil)) (by with_unfolding_all exact (ca)))) .(Exs.cons .(Ex.expr .(Ial .(Ia0 2) (Meth.append (Lv.loc hp2)) .(Kept.builtin) (Evs.cons .(Ia0 3) .(Evs.nil)) (by with_unfolding_all exact (cb)))) .(Exs.nil))))
end
end
section
noncomputable abbrev qkr (f:Nat->Int) (t:Nat):List AObj:=(Ac (t+1)).map fun i=>.lst (qa0 (bef f i))
noncomputable abbrev qkt (f:Nat->Int) (t:Nat):List AObj:=.lst (qas t f)::qkr f t
theorem at0 {x:AObj}:(σ ++ x::τ)[σ.length]?=some x:=by simp
section
variable (F:Fac W) {f:Nat->Int}
include F in
theorem qp7 (hN:N<=7)(hY:∀m,σ.length<=m->Y m):∀j t,t+j=N->ForC ⟨W,Y,nm16.1,cd⟩ k fr ta16.1 bo16.1 [] (.enum (.lst (qd1 N f)) (qd1 N f)) t (qr0 N f σ.length (σ.length+1+t)) (σ ++ qkt f t) .next (qr0 N f σ.length (σ.length+1+N)) (σ ++ qkt f N):=by
  intro j;induction j with
  | zero=>
    intro t ht;obtain rfl:t=N:=ht;exact ForC.done Lv.fz (by show ((qd1 t f).zipIdx.map _).length=t;simp) Exs.nil
  | succ j ih=>
    intro t ht;have htN:t<N:=by lia
    have h0:(σ ++ qkt f t)[σ.length]?=some (.lst (qas t f)):=at0;have h1:(σ ++ qkt f t)[σ.length+1+t]?=some (.lst (qa0 (bef f t))):=by
      rw[Nat.add_assoc,qax (j:=1+t) rfl,Nat.add_comm,Dm,Aj,Ba (Bp t)];rfl
    have hl:(σ ++ qkt f t).length=σ.length+1+(t+1):=by rw[Ao,BY,Ab,AM];lia
    have hb:=qp6 F (Y:=Y) (cd:=cd) (k:=k) (fr:=fr) htN hN h0 h1 (hY _ (Ak _)) (fun m hm=>hY m (by lia));have e:(σ ++ qkt f t).set σ.length (.lst (qas (t+1) f)) ++ [.lst (qa0 (qab f t ++ [t]))]=σ ++ qkt f (t+1):=by
      have:=qda (σ:=σ) (τ:=qkt f t) (n:=σ.length) (j:=0) (x:=.lst (qas (t+1) f)) rfl;rw[Nat.add_zero] at this;rw[this,AX];show σ ++ (AObj.lst (qas (t+1) f)::(qkr f t ++ [.lst (qa0 (bef f (t+1)))]))=_;rw[qkt,qkr,qkr,C0 (n:=t+1),A0];rfl
    rw[e,hl] at hb;refine ForC.next (m1:=((qr0 N f σ.length (σ.length+1+t)).set 3 (some (.int (t:Nat)))).set 4 (some (.int (f t)))) (z1:=σ ++ qkt f t) Lv.fz (qa3 (fun _=>rfl) _) (v:=.tup [.int (t:Nat),.int (f t)]) ?_ (fun _=>⟨_,_,_,rfl⟩) ?_ hb (ih (t+1) (by lia))
    . show ((qd1 N f).zipIdx.map fun p=>AV.tup [.int p.2,p.1])[t]?=_;rw[Aj,DK,Aj,Ba htN];simp
    . show As _ _ _ _ _ (.Tuple _ _ _) _ _ _;with_reducible exact .(As.tuple .(AsL.cons .(Ia4 3) .(AsL.cons .(Ia4 4) .(AsL.nil))))
theorem qji (t:Nat):qad b (qas t f)=true:=qc8 fun v hv=>by
  obtain ⟨i,_,rfl⟩:=Br.mp hv;rfl
include F in
theorem qia (hN:N<=7):Calls W Y (k+1) fr σ (.glob (.ref A16)) [.lst (qd1 N f)] [] [] (.lst (qas N f)) σ:=by
  refine Icg (τ:=qkt f N) (F.f16 (.lst (qd1 N f))) (m':=[]) (fl:=.ret (.loc σ.length)) (fun cd env _=>?_) (fun _ _=>?_)
  . have h:=qp7 F (Y:=fun m=>Y m\/σ.length<=m) (cd:=cd) (k:=k) (fr:=env::fr) (σ:=σ) (N:=N) (f:=f) hN (fun _ h=>.inr h) N 0 (Eo N);have z1:σ ++ [AObj.lst []] ++ [.lst []]=σ ++ qkt f 0:=by rw[AX];rfl
    have v1:AV.tup [.loc σ.length,.loc (σ ++ [AObj.lst []]).length]=.tup [.loc σ.length,.loc (σ.length+1+0)]:=by simp
    with_reducible refine Exs.f (Iae (m2:=qr0 N f σ.length (σ.length+1+N)) ?_)
    show Exs _ _ _ _ _ (_::_) _ _ _;with_reducible exact .(Exs.cons .(Ic8 (i:=1) (j:=2) .(Ibu .(Ev.tuple (Evs.cons .(Ian Evs.nil) .((Evs.cons .(Ian Evs.nil) .(Evs.nil))))) z1 v1) Uu Uu (by decide) Uu Uu) .(Exs.cons .(Ib3 .(ItE.call .(Iah 5 F.b_enumerate) .(Kept.type) (Evs.cons .(Ia0 0) .(Evs.nil)) .(CallIt.enum (Lv.fz))) (by with_unfolding_all exact ForC.pre h (by exact Weak.refl))) .(Exs.ret .(Iaj .(Ia0 1)))))
  . show _=frz σ.length _ (.loc σ.length);show _=(if σ.length<σ.length then AV.loc σ.length else match (σ ++ qkt f N)[σ.length]? with | some (.lst l)=>if qad σ.length l then .lst l else .any | _=>.any);have:(σ ++ qkt f N)[σ.length]?=some (.lst (qas N f)):=at0;rw[if_neg (BV _),this];show _=if qad σ.length (qas N f)=true then _ else _;rw[if_pos (qji N)]
end
end
section
theorem qhe {t:Nat}{f:Nat->Int}(h:t<N):(qd1 N f)[t]?=some (.int (f t)):=by rw[Aj,Ba h];rfl
theorem qr1 {t:Nat}{f:Nat->Int}(h:t<N):(qas N f)[t]?=some (qdz f t):=by rw[Aj,Ba h];rfl
theorem qs8:∀m:Fin 128,∀p:Fin 7,2 ^ (p:Nat)<=(m:Nat)->(m:Nat)<2 ^ ((p:Nat)+1)->E5 ((m:Nat):Int)=(p:Nat)+1:=by decide +kernel
noncomputable def amN (f:Nat->Int) (p:Nat):Nat:=((qab f p).map fun x=>2 ^ x).sum
theorem qj8 (f:Nat->Int)(p:Nat):amI f p=(amN f p:Nat):=by
  unfold amI amN;induction qab f p with
  | nil=>rfl
  | cons x l ih=>rw[Bz,Bz,Cr,Cr,ih,Int.natCast_add,Int.natCast_pow];rfl
theorem qug (f:Nat->Int)(p:Nat):amN f p<2 ^ p:=qdl (qb2 f p) fun _ h=>qb0 h
theorem qsc {f:Nat->Int}{t:Nat}(h:0<t)(h7:t<7):((E5 (amI f t):Nat):Int) - 1=(qd6 f t:Nat):=by
  obtain ⟨L,e⟩:=qfv (f:=f) h;have hp:qd6 f t<t:=qb0 (anN_iff.mp (qe0 (f:=f) h));have hs:=qb2 f t;rw[e] at hs;have h1:=qdl (BB.mp hs).1 fun x hx=>(BB.mp hs).2.2 x hx _ (AL.mpr rfl)
  have h2:amN f t=(L.map fun x=>2 ^ x).sum+2 ^ qd6 f t:=by
    unfold amN;conv=>lhs;rw[e]
    rw[A0,List.sum_append];rfl
  have h3:=qug f t;have h4:(2:Nat) ^ t<=2 ^ 7:=Cb (by decide) (Av h7);have h5:(2:Nat) ^ (qd6 f t+1)=2 ^ qd6 f t+2 ^ qd6 f t:=by rw[Dr];lia
  rw[qj8,qs8 ⟨amN f t,by grind⟩ ⟨qd6 f t,by lia⟩ (by simp only[];simp_all) (by simp only[];simp_all)];simp
noncomputable def ta18:PSigma (fun l=>(qbl (nth bd18.1 4))=l):=⟨_,by conv=>lhs;whnf⟩
noncomputable def bo18:PSigma (fun l=>(qbp (nth bd18.1 4))=l):=⟨_,by conv=>lhs;whnf⟩
noncomputable abbrev qgl (odd:Bool):List Str:=if odd then ["k","by"] else ["k"]
noncomputable abbrev qgw (odd:Bool) (t:Nat):List AV:=if odd then [.int (t:Nat),.str "hand"] else [.int (t:Nat)]
theorem qqp (odd:Bool){t:Nat}(h1:(qgl odd)[i]?=some x)(h2:(qgw odd t)[i]?=some v):qdq (qgl odd) (qgw odd t) x=some v:=by
  cases odd with
  | true=>
    match i,h1,h2 with
    | 0,h1,h2=>injection h1 with h1;injection h2 with h2;subst h1 h2;kernel_rfl
    | 1,h1,h2=>injection h1 with h1;injection h2 with h2;subst h1 h2;kernel_rfl
    | n+2,h1,h2=>simp[qgl] at h1
  | false=>
    match i,h1,h2 with
    | 0,h1,h2=>injection h1 with h1;injection h2 with h2;subst h1 h2;kernel_rfl
    | n+1,h1,h2=>simp[qgl] at h1
theorem qu3 (odd:Bool)(t:Nat):∀v∈qgw odd t,isD v=true/\(toP v).depth<=64:=by
  cases odd with
  | true=>exact fac ⟨rfl,AI _⟩ (fac ⟨by decide +kernel,AI _⟩ fa0)
  | false=>exact fac ⟨rfl,AI _⟩ fa0
noncomputable abbrev tabO:AObj:=.dstr ["k","by"] [.int 99,.str "hand"]
noncomputable abbrev qv2 (F:Addr) (odd:Bool) (n t:Nat) (tag:Bool):List AObj:=[.dstr ["k"] [.int (t:Nat)],.dstr (qgl odd) (qgw odd t),.elem atE (qaq F (.loc (n+3)) (.loc (n+1)) (.str (qd8 tag))),.lst [],.dstr (qgl odd) (qgw odd t)]
noncomputable def qhx (N:Nat) (f:Nat->Int) (rl tl bl b1 l1:Nat):List (Option AV):=[some (.lst (qas N f)),some (.lst (qd1 N f)),some (.loc rl),some (.loc tl),some (.bool true),some (.loc bl),some (.loc b1),some (.loc l1),none,none,none,none,none,none,none,none,none,none,none]
theorem qh5 (b:Bool):Bt (qd8 b)=true:=by cases b <;> decide +kernel
section
variable (F:Fac W) {f:Nat->Int} {rl tl bl b1 l1 ab ib t:Nat} {R avs:List AV} {as:List Str}
include F in
theorem qq1 (odd:Bool)(ht:t<N)(hN:N<=7)(hodd:((f t).fmod 2==1)=odd)(hR:σ[rl]?=some (.lst R))(hT:σ[tl]?=some tabO)(hab:(t=0/\ab=bl)\/(0<t/\R[qd6 f t]?=some (.loc ab)))(hp:σ[ab]?=some (.elem as avs))(hm:(as.zip avs).lookup ("makeelement":Str)=some (.glob (.ref A17)))(ha:(as.zip avs).lookup ("append":Str)=some (.bound "list.append" (.loc ib)))(hin:(as.zip avs).lookup ("inner":Str)=some (.loc ib))(hi:σ[ib]?=some (.lst ch))(hYi:Y ib)(hYr:Y rl)(hYn:∀m,σ.length<=m->Y m)(hri:rl≠ib)(hai:ab≠ib)(hzc:ch.length<=1000)(hzR:R.length<=1000):
    Exs ⟨W,Y,nm18.1,cd⟩ (k+2) fr (((qhx N f rl tl bl b1 l1).set 8 (some (.int (t:Nat)))).set 9 (some (qdz f t))) σ bo18.1 .next (qhx N f rl tl bl b1 l1) ((σ.set ib (.lst (ch ++ [.loc (σ.length+2)]))).set rl (.lst (R ++ [.loc (σ.length+2)])) ++ qv2 A17 odd σ.length t (qb8 f t)):=by
  generalize hn:σ.length=n at *;generalize hS:σ.set ib (.lst (ch ++ [.loc (n+2)]))=S;have hSl:S.length=n:=by rw[<- hS,A5,hn]
  have hzN:(qd1 N f).length<=Ai:=by rw[Ab,AM,Ay];lia
  have hct:=qhe (f:=f) ht;have hzR':R.length<=Ai:=by rw[Ay];lia
  have hkS:=(F.f11t .none .none .none [] [] (by decide) rfl rfl nofun (AI _)).kept;have hkI:=(F.f10 .none).kept;have hnd:(["k"]:List Str).Nodup:=by decide
  have hnx:∀x∈(["k"]:List Str),x∉(["parent","tag","attrib"]:List Str):=by decide
  have hsub:Calls W Y (k+2) fr σ (.glob (.ref A11)) (if odd=true then [.loc ab,.str (qd8 (qb8 f t)),.loc tl] else [.loc ab,.str (qd8 (qb8 f t))]) ["k"] [.int (t:Nat)] (.loc (n+2)) (S ++ [.dstr ["k"] [.int (t:Nat)],.dstr (qgl odd) (qgw odd t),.elem atE (qaq A17 (.loc (n+3)) (.loc (n+1)) (.str (qd8 (qb8 f t)))),.lst []]):=by
    cases odd with
    | true=>
      rw[if_pos rfl];have:=qss F (Y:=Y) (k:=k) (fr:=fr) (σ:=σ) (tag:=.str (qd8 (qb8 f t))) (ks':=["k"]) (vs':=[.int (t:Nat)]) hp hm ha hi hYi hT rfl rfl (by exact (by decide:3<=Ai)) rfl (by rw[Ay];lia) hnd rfl hnx (mk:=["k","by"]) (mv:=[.int (t:Nat),.str "hand"]) (by kernel_rfl);rw[hn,hS] at this;exact this
    | false=>
      rw[if_neg (by simp)];have:=qst F (Y:=Y) (k:=k) (fr:=fr) (σ:=σ) (tag:=.str (qd8 (qb8 f t))) (ks':=["k"]) (vs':=[.int (t:Nat)]) hp hm ha hi hYi rfl (by decide) rfl (by rw[Ay];lia) hnd rfl hnx (mk:=["k"]) (mv:=[.int (t:Nat)]) (by kernel_rfl);rw[hn,hS] at this;exact this
  have hSib:S[ib]?=some (.lst (ch ++ [.loc (n+2)])):=by rw[<- hS];exact qbv hi
  have hSrl:S[rl]?=some (.lst R):=by rw[<- hS,qaw (BH hri)];exact hR
  have hSab:S[ab]?=some (.elem as avs):=by rw[<- hS,qaw (BH hai)];exact hp
  have gn:∀τ j,(S ++ τ)[n+j]?=τ[j]?:=fun τ j=>qax (by rw[hSl])
  have hlast:∃j,CN (-1) (ch ++ [AV.loc (n+2)]).length=some j/\(ch ++ [AV.loc (n+2)])[j]?=some (.loc (n+2)):=qql (j:=ch.length) (by simp) (by simp;lia);have hzl:(ch ++ [AV.loc (n+2)]).length<=Ai:=by rw[Ao,Ay];simp;lia
  have hDt:D1 64 (.str (qd8 (qb8 f t))):=D1.str (qh5 _);obtain ⟨fv,hfv⟩:∃fv,fv=qv2 A17 odd n t (qb8 f t):=⟨_,rfl⟩
  have e1:S ++ [.dstr ["k"] [.int (t:Nat)],.dstr (qgl odd) (qgw odd t),.elem atE (qaq A17 (.loc (n+3)) (.loc (n+1)) (.str (qd8 (qb8 f t)))),.lst []] ++ [.dstr (qgl odd) (qgw odd t)]=S ++ fv:=by rw[hfv,AX];rfl
  have v1:AV.loc (S ++ [AObj.dstr ["k"] [.int (t:Nat)],.dstr (qgl odd) (qgw odd t),.elem atE (qaq A17 (.loc (n+3)) (.loc (n+1)) (.str (qd8 (qb8 f t)))),.lst []]).length=.loc (n+4):=by rw[Ao,hSl];rfl
  have g2:(S ++ fv)[n+2]?=some (.elem atE (qaq A17 (.loc (n+3)) (.loc (n+1)) (.str (qd8 (qb8 f t))))):=by rw[gn,hfv];rfl
  have gib:(S ++ fv)[ib]?=some (.lst (ch ++ [.loc (n+2)])):=qac hSib;have gab:(S ++ fv)[ab]?=some (.elem as avs):=qac hSab;have hd2:Op2 W Y (k+2) fr (S ++ fv) (CM .Eq) (.loc (n+1)) (.loc (n+4)) (.bool true) (S ++ fv):=Ic0 (ks:=qgl odd) (ks':=qgl odd) (vs:=qgw odd t) (vs':=qgw odd t) (by rw[gn,hfv];rfl) (by rw[gn,hfv];rfl) rfl (by cases odd <;> rfl) (qu3 odd t) (fun i x v h1 h2=>qqp odd h1 h2);have hi2:Calls W Y (k+2) fr (S ++ fv) (.glob (.ref A10)) [.loc (n+2)] [] [] (.bool true) (S ++ fv):=qtt F (k:=k+1) fun k fr Y=>Iby g2 Uu rfl qdr
  have hap:=Iap (Calls.append (W:=W) (Y:=Y) (k:=k+2) (fr:=fr) (v:=.loc (n+2)) (qac (τ:=fv) hSrl) hYr rfl hzR') rfl (set_app (qbn hSrl));rw[<- hfv];refine Exs.post (m2:=((((((qhx N f rl tl bl b1 l1).set 8 (some (.int (t:Nat)))).set 9 (some (qdz f t))).set 10 (some (.loc ab))).set 11 (some (.loc (n+2)))).set 12 (some (.loc (n+4)))).set 4 (some (.bool true))) ?_ (by with_unfolding_all exact Ia6 524032);have habv:Ex ⟨W,Y,nm18.1,cd⟩ (k+2) fr (((qhx N f rl tl bl b1 l1).set 8 (some (.int (t:Nat)))).set 9 (some (qdz f t))) σ (nth bo18.1 0) .next ((((qhx N f rl tl bl b1 l1).set 8 (some (.int (t:Nat)))).set 9 (some (qdz f t))).set 10 (some (.loc ab))) σ:=by
    rcases hab with ⟨h00,rfl⟩ | ⟨h00,hRp⟩
    . have h0:decide ((0:Int)<((t:Nat):Int))=false:=by simp;omega
      show Ex _ _ _ _ _ (.Assign _ _ _) _ _ _;exact .(Ia5 .(Ib9 (c:=false) .(Iaa .(Ia3 .(Ia0 8) .(Ia1) .(Icf)) h0) (fun h=>nomatch h) (fun _=>.(Ia0 5))) .(Ia4 10))
    . have h0:decide ((0:Int)<((t:Nat):Int))=true:=by simp;omega
      have hpar:=qsc (f:=f) h00 (Ah ht hN);show Ex _ _ _ _ _ (.Assign _ _ _) _ _ _;exact .(Ia5 .(Ib9 (c:=true) .(Iaa .(Ia3 .(Ia0 8) .(Ia1) .(Icf)) h0) (fun _=>.(Ia9 .(Ia0 2) .(Ia2 .(Ial .(Iay .(Ia0 9) .(Ia1) .(⟨_,rfl,rfl⟩)) (by exact MethOk.intBits) .(Kept.builtin) Evs.nil (by with_unfolding_all exact (Icw))) .(Ia1) .(Icy)) .(Lv.loc (by assumption)) (by exact qbc hpar hRp) (by exact hzR'))) (fun h=>nomatch h)) .(Ia4 10))
  cases odd with
  | true=>
    have hsub:Calls W Y (k+2) fr σ (.glob (.ref A11)) [.loc ab,.str (qd8 (qb8 f t)),.loc tl] ["k"] [.int (t:Nat)] (.loc (n+2)) (S ++ [.dstr ["k"] [.int (t:Nat)],.dstr (["k","by"]:List Str) [AV.int (t:Nat),.str "hand"],.elem atE (qaq A17 (.loc (n+3)) (.loc (n+1)) (.str (qd8 (qb8 f t)))),.lst []]):=hsub;have e1:S ++ [AObj.dstr (["k"]:List Str) [AV.int (t:Nat)],.dstr (["k","by"]:List Str) [AV.int (t:Nat),.str "hand"],.elem atE (qaq A17 (.loc (n+3)) (.loc (n+1)) (.str (qd8 (qb8 f t)))),.lst []] ++ [.dstr (["k","by"]:List Str) [AV.int (t:Nat),.str "hand"]]=S ++ fv:=e1;have v1:AV.loc (S ++ [AObj.dstr (["k"]:List Str) [AV.int (t:Nat)],.dstr (["k","by"]:List Str) [AV.int (t:Nat),.str "hand"],.elem atE (qaq A17 (.loc (n+3)) (.loc (n+1)) (.str (qd8 (qb8 f t)))),.lst []]).length=.loc (n+4):=v1;refine Exs.cons (z1:=σ) habv ?_;show Exs _ _ _ _ _ (_::_) _ _ _;exact .(Exs.cons .(Ia5 .(Ib9 (c:=true) .(Iaa .(Ia3 .(Ia2 .(Ia9 .(Ia0 1) .(Ia0 8) .(Lv.fz) (by exact qbc rfl hct) (by exact hzN)) .(Ia1) .(Iaw (by decide))) .(Ia1) .(Ib2)) hodd) (fun _=>.(Ev.call .(Iac 16 F.g_SubElement) (hkS) (Evs.cons .(Ia0 10) .((Evs.cons .(Iay .(Ia0 9) .(Ia1) .(⟨_,rfl,rfl⟩)) .((Evs.cons .(Ia0 3) .(Evs.nil)))))) (EvK.cons .(Ia0 8) .(EvK.nil)) (hsub))) (fun h=>nomatch h)) .(Ia4 11)) .(Exs.cons .(Ia5 .(Ibu .(Ib9 (c:=true) .(Iaa .(Ia3 .(Ia2 .(Ia9 .(Ia0 1) .(Ia0 8) .(Lv.fz) (by exact qbc rfl hct) (by exact hzN)) .(Ia1) .(Iaw (by decide))) .(Ia1) .(Ib2)) hodd) (fun _=>.(Ibw ["k","by"] (by with_unfolding_all exact EvP.cons .(Ia8) .(Ia0 8) (by with_unfolding_all exact EvP.cons .(Ia8) .(Ia8) (by with_unfolding_all exact EvP.nil))) Uu (by decide))) (fun h=>nomatch h)) e1 v1) .(Ia4 12)) .(Exs.cons .(Ia5 .(Iag .(Ibt .(EvAnd.cons .(Ia0 4) .(EvAnd.cons .(Iav .(Ia9 .(Iab .(Ia0 10) (by exact gab) (by exact hin) qc0) .(Ic3 .(Ia1)) (by exact Lv.loc gib) (by exact hlast) (by exact hzl)) .(Ia0 11) .(Ice)) .(EvAnd.cons .(Iav .(Iab .(Ia0 11) (by exact g2) Uu qdr) .(Iay .(Ia0 9) .(Ia1) .(⟨_,rfl,rfl⟩)) (Ibo (Dv.of hDt) (Dv.of hDt) (by simp))) .(EvAnd.cons .(Iav .(Iab .(Ia0 11) (by exact g2) Uu qao) .(Ia0 12) (hd2)) .(EvAnd.one .(Iav .(Ev.call .(Iac 17 F.g_iselement) (hkI) (Evs.cons .(Ia0 11) .(Evs.nil)) EvK.nil (hi2)) .(Ibd) .(Ib4)))))))) ((rfl:AV.bool (true==true)=.bool true))) .(Ia4 4)) .(Exs.cons .(Ex.expr .(Ial .(Ia0 2) (Meth.append (Lv.loc (qac hSrl))) .(Kept.builtin) (Evs.cons .(Ia0 11) .(Evs.nil)) (by with_unfolding_all exact (hap)))) .(Exs.nil)))))
  | false=>
    have hsub:Calls W Y (k+2) fr σ (.glob (.ref A11)) [.loc ab,.str (qd8 (qb8 f t))] ["k"] [.int (t:Nat)] (.loc (n+2)) (S ++ [.dstr ["k"] [.int (t:Nat)],.dstr (["k"]:List Str) [AV.int (t:Nat)],.elem atE (qaq A17 (.loc (n+3)) (.loc (n+1)) (.str (qd8 (qb8 f t)))),.lst []]):=hsub;have e1:S ++ [AObj.dstr (["k"]:List Str) [AV.int (t:Nat)],.dstr (["k"]:List Str) [AV.int (t:Nat)],.elem atE (qaq A17 (.loc (n+3)) (.loc (n+1)) (.str (qd8 (qb8 f t)))),.lst []] ++ [.dstr (["k"]:List Str) [AV.int (t:Nat)]]=S ++ fv:=e1;have v1:AV.loc (S ++ [AObj.dstr (["k"]:List Str) [AV.int (t:Nat)],.dstr (["k"]:List Str) [AV.int (t:Nat)],.elem atE (qaq A17 (.loc (n+3)) (.loc (n+1)) (.str (qd8 (qb8 f t)))),.lst []]).length=.loc (n+4):=v1;refine Exs.cons (z1:=σ) habv ?_;show Exs _ _ _ _ _ (_::_) _ _ _;exact .(Exs.cons .(Ia5 .(Ib9 (c:=false) .(Iaa .(Ia3 .(Ia2 .(Ia9 .(Ia0 1) .(Ia0 8) .(Lv.fz) (by exact qbc rfl hct) (by exact hzN)) .(Ia1) .(Iaw (by decide))) .(Ia1) .(Ib2)) hodd) (fun h=>nomatch h) (fun _=>.(Ev.call .(Iac 16 F.g_SubElement) (hkS) (Evs.cons .(Ia0 10) .((Evs.cons .(Iay .(Ia0 9) .(Ia1) .(⟨_,rfl,rfl⟩)) .(Evs.nil)))) (EvK.cons .(Ia0 8) .(EvK.nil)) (hsub)))) .(Ia4 11)) .(Exs.cons .(Ia5 .(Ibu .(Ib9 (c:=false) .(Iaa .(Ia3 .(Ia2 .(Ia9 .(Ia0 1) .(Ia0 8) .(Lv.fz) (by exact qbc rfl hct) (by exact hzN)) .(Ia1) .(Iaw (by decide))) .(Ia1) .(Ib2)) hodd) (fun h=>nomatch h) (fun _=>.(Ibw ["k"] (by with_unfolding_all exact EvP.cons .(Ia8) .(Ia0 8) (by with_unfolding_all exact EvP.nil)) Uu (by decide)))) e1 v1) .(Ia4 12)) .(Exs.cons .(Ia5 .(Iag .(Ibt .(EvAnd.cons .(Ia0 4) .(EvAnd.cons .(Iav .(Ia9 .(Iab .(Ia0 10) (by exact gab) (by exact hin) qc0) .(Ic3 .(Ia1)) (by exact Lv.loc gib) (by exact hlast) (by exact hzl)) .(Ia0 11) .(Ice)) .(EvAnd.cons .(Iav .(Iab .(Ia0 11) (by exact g2) Uu qdr) .(Iay .(Ia0 9) .(Ia1) .(⟨_,rfl,rfl⟩)) (Ibo (Dv.of hDt) (Dv.of hDt) (by simp))) .(EvAnd.cons .(Iav .(Iab .(Ia0 11) (by exact g2) Uu qao) .(Ia0 12) (hd2)) .(EvAnd.one .(Iav .(Ev.call .(Iac 17 F.g_iselement) (hkI) (Evs.cons .(Ia0 11) .(Evs.nil)) EvK.nil (hi2)) .(Ibd) .(Ib4)))))))) ((rfl:AV.bool (true==true)=.bool true))) .(Ia4 4)) .(Exs.cons .(Ex.expr .(Ial .(Ia0 2) (Meth.append (Lv.loc (qac hSrl))) .(Kept.builtin) (Evs.cons .(Ia0 11) .(Evs.nil)) (by with_unfolding_all exact (hap)))) .(Exs.nil)))))
end
end
section
noncomputable abbrev qoa (F:Addr) (n:Nat):List AObj:=[.lst [],tabO,.dstr [] [],.elem atE (qaq F (.loc (n+4)) (.loc (n+2)) (.str "book")),.lst [],.elem ["attrib"] [.loc (n+1)],.elem ["tag"] [.str "lone"]]
noncomputable def abL (f:Nat->Int) (n:Nat):Nat->Nat
  | 0=>n+3
  | t+1=>n+7+5*(qd6 f (t+1))+2
noncomputable def qfw (f:Nat->Int) (t:Nat):Bool:=(f t).fmod 2==1
theorem qhp (h:j∈[1,3,5,6]):0<j/\j<7/\j≠4:=(by decide:∀j∈[1,3,5,6],0<j/\j<7/\j≠4) j h
noncomputable abbrev elE (n:Nat) (f:Nat->Int) (s:Nat):AObj:=.elem atE (qaq A17 (.loc (n+7+5*s+3)) (.loc (n+7+5*s+1)) (.str (qd8 (qb8 f s))))
noncomputable abbrev qak (n:Nat) (l:List Nat):List AV:=l.map fun q=>AV.loc (n+7+5*q+2)
theorem qns (f:Nat->Int)(t s:Nat):qfd (t+1) f s=if 0<t/\qd6 f t=s then qfd t f s ++ [t] else qfd t f s:=by
  unfold qfd;rw[C0,CO];by_cases h:0<t/\qd6 f t=s
  . rw[if_pos h,De (by rw[decide_eq_true h.1,h.2];simp)];rfl
  . rw[if_neg h,List.filter_cons_of_neg]
    . exact Bf _
    . intro q;rw[AG,beq_iff_eq,decide_eq_true_eq] at q;exact h q
theorem qpm (f:Nat->Int)(t:Nat):qfd (t+1) f t=[]:=by
  unfold qfd;rw[BD];intro q hq h;rw[AG,beq_iff_eq,decide_eq_true_eq] at h;have h2:=qb0 (anN_iff.mp (qe0 (f:=f) h.1));rw[Bi] at hq;lia
structure DocI (W:Wd) (f:Nat->Int) (n t:Nat) (z0 σ:List AObj):Prop where
  len:σ.length=n+7+5*t
  row:σ[n]?=some (.lst (qak n (Ac t)))
  fix:∀{j:Nat} {x:AObj},j∈[1,3,5,6]->(qoa A17 n)[j]?=some x->σ[n+j]?=some x
  bookI:σ[n+4]?=some (.lst (if t=0 then [] else [.loc (n+7+5*0+2)]))
  els:∀s,s<t->σ[n+7+5*s+2]?=some (elE n f s)
  inn:∀s,s<t->σ[n+7+5*s+3]?=some (.lst (qak n (qfd t f s)))
  att:∀s,s<t->σ[n+7+5*s+1]?=some (.dstr (qgl (qfw f s)) (qgw (qfw f s) s))
  old:∀i,i<n->σ[i]?=z0[i]?
section
variable (F:Fac W) {f:Nat->Int} {t:Nat} {z0:List AObj}
theorem Idj {S:List AObj}(D:DocI W f n t z0 σ){ib:Nat}(hib:(t=0/\ib=n+4/\ch=[])\/(0<t/\ib=n+7+5*(qd6 f t)+3/\ch=qak n (qfd t f (qd6 f t))))(h5:τ.length=5)(t1:τ[1]?=some (.dstr (qgl (qfw f t)) (qgw (qfw f t) t)))(t2:τ[2]?=some (elE n f t))(t3:τ[3]?=some (.lst []))(hnb:∀s j,j<3->n+7+5*s+j≠ib)(hn4:∀j,j<7->j≠4->n+j≠ib)(hn0:∀s j,n+7+5*s+j≠n)(hle:n<=ib)(hl:S.length=n+7+5*t)(row:S[n]?=some (.lst (qak n (Ac t) ++ [.loc (n+7+5*t+2)])))(own:S[ib]?=some (.lst (ch ++ [.loc (n+7+5*t+2)])))(rest:∀i,i≠n->i≠ib->S[i]?=σ[i]?):DocI W f n (t+1) z0 (S ++ τ):=by
  have keep:∀i x,i≠n->i≠ib->σ[i]?=some x->(S ++ τ)[i]?=some x:=fun i x h1 h2 hx=>qac ((rest i h1 h2).trans hx)
  have new:∀j,(S ++ τ)[n+7+5*t+j]?=τ[j]?:=fun j=>qax (by rw[hl])
  refine ⟨by rw[Ao,hl,h5];rfl,by rw[qac row,C0,qak,qak,A0];rfl,fun {j x} hj hx=>?_,?_,fun s hs=>?_,fun s hs=>?_,fun s hs=>?_,fun i hi'=>?_⟩
  . have h:=qhp hj;exact keep _ _ (C1 (CA h.1)) (hn4 j h.2.1 h.2.2) (D.fix hj hx)
  . rcases hib with ⟨h1,h2,h3⟩ | ⟨h1,h2,h3⟩
    . rw[<- h2,qac own,h3,h1];rfl
    . rw[keep _ _ (C1 (CA (by decide:0<4))) (fun e=>by lia) D.bookI,if_neg (C1 h1)];rfl
  . rcases Co (AH hs) with hs | rfl
    . exact keep _ _ (hn0 s 2) (hnb s 2 (by decide)) (D.els s hs)
    . exact (new 2).trans t2
  . rcases Co (AH hs) with hs | rfl
    . rw[qns];by_cases h:0<t/\qd6 f t=s
      . rw[if_pos h];rcases hib with ⟨h1,_⟩ | ⟨_,h2,h3⟩
        . exact absurd h.1 (by simp_all)
        . rw[h.2] at h2 h3;rw[<- h2,qac own,h3,qak,qak,A0];rfl
      . rw[if_neg h];refine keep _ _ (hn0 s 3) (fun e=>?_) (D.inn s hs);rcases hib with ⟨_,h2,_⟩ | ⟨h1,h2,_⟩
        . simp_all
        . exact h ⟨h1,by grind⟩
    . rw[qpm];exact (new 3).trans t3
  . rcases Co (AH hs) with hs | rfl
    . exact keep _ _ (hn0 s 1) (hnb s 1 (by decide)) (D.att s hs)
    . exact (new 1).trans t1
  . rw[<- D.old i hi',BC (by rw[hl];exact Ah hi' (Af (AZ n 7) (AZ _ _)))];exact rest i (B9 hi') (B9 (Ah hi' hle))
theorem DocI.step (D:DocI W f n t z0 σ){ib:Nat}(hi:σ[ib]?=some (.lst ch))(hib:(t=0/\ib=n+4/\ch=[])\/(0<t/\ib=n+7+5*(qd6 f t)+3/\ch=qak n (qfd t f (qd6 f t))))(h5:τ.length=5)(t1:τ[1]?=some (.dstr (qgl (qfw f t)) (qgw (qfw f t) t)))(t2:τ[2]?=some (elE n f t))(t3:τ[3]?=some (.lst [])):
    DocI W f n (t+1) z0 ((σ.set ib (.lst (ch ++ [.loc (n+7+5*t+2)]))).set n (.lst (qak n (Ac t) ++ [.loc (n+7+5*t+2)])) ++ τ):=by
  have hnb:∀s j,j<3->n+7+5*s+j≠ib:=fun s j hj e=>by rcases hib with ⟨_,h,_⟩ | ⟨_,h,_⟩ <;> lia
  have hn4:∀j,j<7->j≠4->n+j≠ib:=fun j h1 h2 e=>hib.elim (fun h=>h2 (Nat.add_left_cancel (e.trans h.2.1))) fun h=>by have:=h.2.1;lia
  have hn0:∀s j,n+7+5*s+j≠n:=fun s j=>by lia
  have hibn:ib≠n:=fun e=>hn4 0 (by decide) (by decide) e.symm
  have hle:n<=ib:=by rcases hib with ⟨_,h,_⟩ | ⟨_,h,_⟩ <;> lia
  have hl:((σ.set ib (.lst (ch ++ [.loc (n+7+5*t+2)]))).set n (.lst (qak n (Ac t) ++ [.loc (n+7+5*t+2)]))).length=n+7+5*t:=by rw[A5,A5];exact D.len
  have row:((σ.set ib (.lst (ch ++ [.loc (n+7+5*t+2)]))).set n (.lst (qak n (Ac t) ++ [.loc (n+7+5*t+2)])))[n]?=some (.lst (qak n (Ac t) ++ [.loc (n+7+5*t+2)])):=qbv ((qaw hibn).trans D.row);have own:((σ.set ib (.lst (ch ++ [.loc (n+7+5*t+2)]))).set n (.lst (qak n (Ac t) ++ [.loc (n+7+5*t+2)])))[ib]?=some (.lst (ch ++ [.loc (n+7+5*t+2)])):=(qaw hibn.symm).trans (qbv hi);have rest:∀i,i≠n->i≠ib->((σ.set ib (.lst (ch ++ [.loc (n+7+5*t+2)]))).set n (.lst (qak n (Ac t) ++ [.loc (n+7+5*t+2)])))[i]?=σ[i]?:=fun i h1 h2=>(qaw (BH h1)).trans (qaw (BH h2))
  generalize (σ.set ib (.lst (ch ++ [.loc (n+7+5*t+2)]))).set n (.lst (qak n (Ac t) ++ [.loc (n+7+5*t+2)]))=S at hl row own rest;exact Idj D hib h5 t1 t2 t3 hnb hn4 hn0 hle hl row own rest
include F in
theorem qq3 (hN:N<=7)(hY:∀m,n<=m->Y m):∀(j t:Nat) (σ:List AObj),t+j=N->DocI W f n t z0 σ->∃z',DocI W f n N z0 z'/\
    ∀(cd:Value) (fr:List Env),ForC ⟨W,Y,nm18.1,cd⟩ (k+2) fr ta18.1 bo18.1 [] (.enum (.lst (qas N f)) (qas N f)) t (qhx N f n (n+1) (n+3) (n+5) (n+6)) σ .next (qhx N f n (n+1) (n+3) (n+5) (n+6)) z':=by
  intro j;induction j with
  | zero=>
    intro t σ ht D;obtain rfl:t=N:=ht;exact ⟨σ,D,fun cd fr=>ForC.done Lv.fz (by show ((qas t f).zipIdx.map _).length=t;simp) Exs.nil⟩
  | succ j ih=>
    intro t σ ht D;have htN:t<N:=ht ▸ CA (C3 j);have hpt:0<t->qd6 f t<t:=fun h=>qb0 (anN_iff.mp (qe0 (f:=f) h))
    obtain ⟨ib,ch,as,avs,hi,hib,hch,hp,hm,ha,hin,habl,hle⟩:∃ib ch as avs,σ[ib]?=some (.lst ch)/\((t=0/\ib=n+4/\ch=[])\/(0<t/\ib=n+7+5*(qd6 f t)+3/\ch=qak n (qfd t f (qd6 f t))))/\ch.length<=t/\σ[abL f n t]?=some (.elem as avs)/\
        (as.zip avs).lookup ("makeelement":Str)=some (.glob (.ref A17))/\(as.zip avs).lookup ("append":Str)=some (.bound "list.append" (.loc ib))/\(as.zip avs).lookup ("inner":Str)=some (.loc ib)/\abL f n t≠ib/\n<ib:=by
      cases t with
      | zero=>exact ⟨n+4,[],_,_,D.bookI,.inl ⟨rfl,rfl,rfl⟩,Ak _,D.fix (j:=3) (by decide) rfl,by with_unfolding_all rfl,by with_unfolding_all rfl,by with_unfolding_all rfl,qc7 (a:=3) (b:=4) rfl,CA (by decide)⟩
      | succ t=>
        have hp:=hpt (C3 t);exact ⟨_,_,_,_,D.inn _ hp,.inr ⟨C3 t,rfl,rfl⟩,by rw[Ab];exact Af (Bu _ _) (BE AM),D.els _ hp,by with_unfolding_all rfl,by with_unfolding_all rfl,by with_unfolding_all rfl,qc7 (n:=n+7+5*qd6 f (t+1)) (a:=2) (b:=3) rfl,by simp +arith⟩
    obtain ⟨z',D5,hf⟩:=ih (t+1) _ ((Ct t j).trans ht) (D.step hi hib (τ:=qv2 A17 (qfw f t) (n+7+5*t) t (qb8 f t)) rfl rfl rfl rfl);refine ⟨z',D5,fun cd fr=>?_⟩;have hab:(t=0/\abL f n t=n+3)\/(0<t/\(qak n (Ac t))[qd6 f t]?=some (.loc (abL f n t))):=by
      cases t with
      | zero=>exact .inl ⟨rfl,rfl⟩
      | succ t=>
        refine .inr ⟨C3 t,?_⟩;rw[Aj,Ba (hpt (C3 t))];rfl
    have hb:=qq1 F (Y:=Y) (cd:=cd) (k:=k) (fr:=fr) (b1:=n+5) (l1:=n+6) (qfw f t) htN hN rfl D.row (D.fix (j:=1) (by decide) rfl) hab hp hm ha hin hi (hY _ (Av hle)) (hY _ (Ak _)) (fun m hm=>hY m (Af (Af (AZ n 7) (AZ _ _)) (Af (BE D.len.symm) hm))) (B9 hle) habl (by lia) (by rw[Ab,AM];lia);rw[D.len] at hb;refine ForC.next (m1:=((qhx N f n (n+1) (n+3) (n+5) (n+6)).set 8 (some (.int (t:Nat)))).set 9 (some (qdz f t))) (z1:=σ) Lv.fz (qa3 (fun _=>rfl) _) (v:=.tup [.int (t:Nat),qdz f t]) ?_ (fun _=>⟨_,_,_,rfl⟩) ?_ hb (hf cd fr)
    . show ((qas N f).zipIdx.map fun p=>AV.tup [.int p.2,p.1])[t]?=_;rw[Aj,DK,qr1 htN];simp
    . show As _ _ _ _ _ (.Tuple _ _ _) _ _ _;exact .(As.tuple .(AsL.cons .(Ia4 8) .(AsL.cons .(Ia4 9) .(AsL.nil))))
end
end
section
noncomputable abbrev elX (n N:Nat) (f:Nat->Int) (s:Nat):AObj:=.elem ("end" :: atE) (.int (qa6 N f s:Nat)::qaq A17 (.loc (n+7+5*s+3)) (.loc (n+7+5*s+1)) (.str (qd8 (qb8 f s))))
noncomputable abbrev eL (n s:Nat):Nat:=n+7+5*s+2
theorem qdt:AW (.type "function") "end"=pure none:=by kernel_rfl
theorem qmu (hN:N=7\/N=4):qbq (qak n (Ac N)) none none (some (-1))=(qak n (Ac N)).reverse:=by
  rcases hN with rfl | rfl <;> kernel_rfl
theorem qmt (h:i<N):((qak n (Ac N)).reverse)[i]?=some (.loc (eL n (N - 1 - i))):=by
  rw[List.getElem?_reverse (by rw[Ab,AM];exact h),Ab,AM,Aj,Ba (by omega)];rfl
theorem qlz (odd:Bool)(t:Nat):qdq (qgl odd) (qgw odd t) ("k":Str)=some (.int (t:Nat)):=by cases odd <;> kernel_rfl
structure quo (f:Nat->Int) (n N i:Nat) (σ τ:List AObj):Prop where
  len:τ.length=σ.length
  els:∀s,s<N->τ[eL n s]?=some (if N<=s+i then elX n N f s else elE n f s)
  rest:∀j,(∀s,s<N->j≠eL n s)->τ[j]?=σ[j]?
noncomputable def ta185:PSigma (fun l=>(qbl (nth bd18.1 5))=l):=⟨_,by conv=>lhs;whnf⟩
noncomputable def bo185:PSigma (fun l=>(qbp (nth bd18.1 5))=l):=⟨_,by conv=>lhs;whnf⟩
section
variable (F:Fac W) {f:Nat->Int} {t:Nat} {z0:List AObj}
include F in
theorem qpx (hN:N<=7)(D:DocI W f n N z0 σ){s:Nat}(E:quo f n N i σ τ)(hs:s<N)(hi:s+(i+1)=N)(hY:Y (eL n s)):
    quo f n N (i+1) σ (τ.set (eL n s) (elX n N f s))/\Exs ⟨W,Y,nm18.1,cd⟩ (k+2) fr ((qhx N f n (n+1) (n+3) (n+5) (n+6)).set 11 (some (.loc (eL n s)))) τ bo185.1 .next (qhx N f n (n+1) (n+3) (n+5) (n+6)) (τ.set (eL n s) (elX n N f s)):=by
  have eLne:∀a b,a≠b->eL n a≠eL n b:=fun a b h e=>h (by unfold eL at e;lia)
  have hne:∀a b,a<5->b<5->a≠b->∀x y,n+7+5*x+a≠n+7+5*y+b:=fun a b h1 h2 h3 x y e=>by lia
  have g:τ[eL n s]?=some (elE n f s):=by rw[E.els s hs,if_neg (by lia)]
  have gi:τ[n+7+5*s+3]?=some (.lst (qak n (qfd N f s))):=(E.rest _ fun x _=>hne 3 2 (by decide) (by decide) (by decide) _ _).trans (D.inn s hs);have ga:τ[n+7+5*s+1]?=some (.dstr (qgl (qfw f s)) (qgw (qfw f s) s)):=(E.rest _ fun x _=>hne 1 2 (by decide) (by decide) (by decide) _ _).trans (D.att s hs);have hlen:(qak n (qfd N f s)).length<=7:=by rw[Ab];exact Af (Bu _ _) (by rw[AM];exact hN)
  have hz:(qak n (qfd N f s)).length<=Ai:=by rw[Ay];omega
  generalize hτ:τ.set (eL n s) (elX n N f s)=τ';refine ⟨⟨by rw[<- hτ,A5];exact E.len,fun x hx=>?_,fun j hj=>by rw[<- hτ,qaw (BH (hj s hs))];exact E.rest j hj⟩,?_⟩
  . rw[<- hτ];by_cases h:x=s
    . subst h;rw[qbv g,if_pos (by simp_all)]
    . rw[qaw (eLne _ _ (BH h)),E.els x hx];by_cases h2:N<=x+i
      . rw[if_pos h2,if_pos (by grind)]
      . rw[if_neg h2,if_neg (by lia)]
  . refine Exs.post (m2:=(qhx N f n (n+1) (n+3) (n+5) (n+6)).set 11 (some (.loc (eL n s)))) ?_ (by with_unfolding_all exact Ia6 524032);rcases qpz (f:=f) hs with ⟨e1,e2⟩ | ⟨L,c,e1,h1,h2,h3⟩
    . have h0:decide ((0:Int)<((qak n (qfd N f s)).length:Nat))=false:=by rw[e1];rfl
      have hk:=qlz (qfw f s) s;have hv:AV.int ((s:Nat):Int)=.int (qa6 N f s:Nat):=by rw[e2]
      show Exs _ _ _ _ _ (_::_) _ _ _;exact .(Exs.cons .(Ia5 .(Iag .(Ib9 (c:=false) .(Iaa .(Ia3 .(Ev.call .(Iah 18 F.b_len) .(Kept.builtin) (Evs.cons .(Iab .(Ia0 11) (by exact g) Uu qc0) .(Evs.nil)) EvK.nil (Calls.len (Lv.loc gi) hz)) .(Ia1) .(Icf)) h0) (fun h=>nomatch h) (fun _=>.(Ibg .(Iab .(Ia0 11) (by exact g) Uu qao) .(Ia8) ga hk))) (hv)) .(Ibp .(Ic1 .(Ia0 11) (by exact g) qdt (by exact hY)) hτ)) .(Exs.nil))
    . have h0:decide ((0:Int)<((qak n (qfd N f s)).length:Nat))=true:=by rw[e1];simp
      have gc:τ[eL n c]?=some (elX n N f c):=by rw[E.els c h2,if_pos (by lia)]
      have hl:∃j,CN (-1) (qak n (qfd N f s)).length=some j/\(qak n (qfd N f s))[j]?=some (.loc (eL n c)):=by
        rw[e1];exact qql (j:=L.length) (by simp) (by simp[qak];have:=congrArg Fx e1;rw[Ao] at this;rw[Ab] at hlen;simp at this;lia)
      have hv:AV.int (qa6 N f c:Nat)=.int (qa6 N f s:Nat):=by rw[h3]
      show Exs _ _ _ _ _ (_::_) _ _ _;exact .(Exs.cons .(Ia5 .(Iag .(Ib9 (c:=true) .(Iaa .(Ia3 .(Ev.call .(Iah 18 F.b_len) .(Kept.builtin) (Evs.cons .(Iab .(Ia0 11) (by exact g) Uu qc0) .(Evs.nil)) EvK.nil (Calls.len (Lv.loc gi) hz)) .(Ia1) .(Icf)) h0) (fun _=>.(Iab .(Ia9 .(Iab .(Ia0 11) (by exact g) Uu qc0) .(Ic3 .(Ia1)) (by exact Lv.loc gi) (by exact hl) (by exact hz)) (by exact gc) Uu qdt)) (fun h=>nomatch h)) (hv)) .(Ibp .(Ic1 .(Ia0 11) (by exact g) qdt (by exact hY)) hτ)) .(Exs.nil))
include F in
theorem qpy (hN:N<=7)(D:DocI W f n N z0 σ)(hY:∀m,n<=m->Y m):∀(j i:Nat) (τ:List AObj),i+j=N->quo f n N i σ τ->∃τ',quo f n N N σ τ'/\
    ∀(cd:Value) (fr:List Env),ForC ⟨W,Y,nm18.1,cd⟩ (k+2) fr ta185.1 bo185.1 [] (.seq (.lst (qak n (Ac N)).reverse) (qak n (Ac N)).reverse) i (qhx N f n (n+1) (n+3) (n+5) (n+6)) τ .next (qhx N f n (n+1) (n+3) (n+5) (n+6)) τ':=by
  intro j;induction j with
  | zero=>
    intro i τ hi E;obtain rfl:i=N:=hi;exact ⟨τ,E,fun cd fr=>ForC.done Lv.fz (by show (qak n (Ac i)).reverse.length=i;simp) Exs.nil⟩
  | succ j ih=>
    intro i τ hi E;have hiN:i<N:=by lia
    have hb:=fun cd fr=>qpx F (Y:=Y) (cd:=cd) (k:=k) (fr:=fr) (s:=N - 1 - i) hN D E (by omega) (by lia) (hY _ (Af (Af (AZ n 7) (AZ _ _)) (AZ _ _)))
    refine qa5 (ih (i+1) _ (by lia) (hb .none []).1) ?_;intro τ' E' hf;refine ⟨τ',E',fun cd fr=>ForC.next (m1:=(qhx N f n (n+1) (n+3) (n+5) (n+6)).set 11 (some (.loc (eL n (N - 1 - i))))) (z1:=τ) (v:=.loc (eL n (N - 1 - i))) Lv.fz ?_ (qmt hiN) nofun ?_ (hb cd fr).2 (hf cd fr)⟩
    . show plains (qak n (Ac N)).reverse=true;rw[<- List.map_reverse];exact qae (fun _=>rfl) _
    . show As _ _ _ _ _ (.Name _ _) _ _ _;exact .(Ia4 11)
end
end
section
def Ext (b:Nat) (σ T:List AObj):Prop:=σ.length<=T.length/\∀i,i<σ.length->i≠b->T[i]?=σ[i]?
theorem Ext.trans {T U:List AObj}(h:Ext b σ T)(h':Ext b T U):Ext b σ U:=⟨Af h.1 h'.1,fun i hi hb=>(h'.2 i (Ah hi h.1) hb).trans (h.2 i hi hb)⟩
theorem Ext.get {T:List AObj}(h:Ext b σ T){x:AObj}(hx:σ[i]?=some x)(hb:i≠b):T[i]?=some x:=(h.2 i (qbn hx) hb).trans hx
theorem Ext.app:Ext b σ (σ ++ τ):=⟨by simp,fun i hi _=>BC hi⟩
theorem Ext.set {x:AObj}:Ext b σ (σ.set b x):=⟨by simp,fun i hi hb=>qaw (BH hb)⟩
section
variable (F:Fac W) {p ip:Nat} {x:AV}
include F in
theorem qqi (hp:σ[p]?=some (.elem atE (qaq A17 (.loc ip) x y)))(hi:σ[ip]?=some (.lst ch))(hYi:Y ip)(hz2:ch.length<=1000):∃T,(∀fr,Calls W Y (k+2) fr σ (.glob (.ref A11)) [.loc p,.str "note"] [] [] (.loc (σ.length+2)) T)/\Ext ip σ T/\T.length=σ.length+4/\T[ip]?=some (.lst (ch ++ [.loc (σ.length+2)]))/\
    T[σ.length+1]?=some (.dstr [] [])/\T[σ.length+2]?=some (.elem atE (qaq A17 (.loc (σ.length+3)) (.loc (σ.length+1)) (.str "note"))):=by
  refine ⟨_,fun fr=>qst F (Y:=Y) (k:=k) (fr:=fr) (σ:=σ) (tag:=.str "note") (ks':=[]) (vs':=[]) hp rfl rfl hi hYi rfl (by decide) rfl (by rw[Ay];lia) .nil rfl nofun (mk:=[]) (mv:=[]) rfl,Ext.set.trans Ext.app,by simp,qac (qbv hi),?_,?_⟩
  . rw[qax (j:=1) (by simp)];rfl
  . rw[qax (j:=2) (by simp)];rfl
include F in
theorem qsz {t:Nat}(ht:σ[t]?=some tabO)(hp:σ[p]?=some (.elem atE (qaq A17 (.loc ip) x y)))(hi:σ[ip]?=some (.lst ch))(hYi:Y ip)(hz2:ch.length<=1000):∃T,(∀fr,Calls W Y (k+2) fr σ (.glob (.ref A11)) [.loc p,.str "note",.loc t] [] [] (.loc (σ.length+2)) T)/\Ext ip σ T/\T.length=σ.length+4/\T[ip]?=some (.lst (ch ++ [.loc (σ.length+2)]))/\
    T[σ.length+1]?=some tabO/\T[σ.length+2]?=some (.elem atE (qaq A17 (.loc (σ.length+3)) (.loc (σ.length+1)) (.str "note"))):=by
  refine ⟨_,fun fr=>qss F (Y:=Y) (k:=k) (fr:=fr) (σ:=σ) (tag:=.str "note") (ks':=[]) (vs':=[]) hp rfl rfl hi hYi ht rfl rfl (by exact (by decide:2<=Ai)) rfl (by rw[Ay];lia) .nil rfl nofun (mk:=["k","by"]) (mv:=[.int 99,.str "hand"]) (by kernel_rfl),Ext.set.trans Ext.app,by simp,qac (qbv hi),?_,?_⟩
  . rw[qax (j:=1) (by simp)];rfl
  . rw[qax (j:=2) (by simp)];rfl
end
noncomputable def ta186:PSigma (fun l=>(qbl (nth bd18.1 6))=l):=⟨_,by conv=>lhs;whnf⟩
noncomputable def bo186:PSigma (fun l=>(qbp (nth bd18.1 6))=l):=⟨_,by conv=>lhs;whnf⟩
section
variable (F:Fac W) {f:Nat->Int} {rl tl bl b1 l1 e a:Nat} {avs:List AV}
include F in
theorem qn8 (he:σ[e]?=some (.elem atE avs))(hat:(atE.zip avs).lookup ("attrib":Str)=some (.loc a))(ha:σ[a]?=some (.dstr ks vs))(hd:σ[d]?=some (.dstr ks vs))(hl:ks.length=vs.length)(hD:∀v∈vs,isD v=true/\(toP v).depth<=64)(hsub:∀(i:Nat) (x:Str) (v:AV),ks[i]?=some x->vs[i]?=some v->qdq ks vs x=some v)(hY:Y a)(hz:ks.length<=100):
    Exs ⟨W,Y,nm18.1,cd⟩ (k+2) fr (((qhx N f rl tl bl b1 l1).set 13 (some (.loc e))).set 12 (some (.loc d))) σ bo186.1 .next (qhx N f rl tl bl b1 l1) (σ.set a (.dstr (qfm ks vs "by" (.str "none")).1 (qfm ks vs "by" (.str "none")).2)):=by
  have hzz:ks.length<=Ai:=by rw[Ay];lia
  have heq:=Ic0 (W:=W) (Y:=Y) (k:=k+2) (fr:=fr) ha hd rfl hl hD hsub;refine Exs.post (m2:=(((qhx N f rl tl bl b1 l1).set 13 (some (.loc e))).set 12 (some (.loc d))).set 4 (some (.bool true))) ?_ (by with_unfolding_all exact Ia6 524032);show Exs _ _ _ _ _ (_::_) _ _ _;exact .(Exs.cons .(Ia5 .(Ibt .(EvAnd.cons .(Ia0 4) .(EvAnd.one .(Iav .(Iab .(Ia0 13) (by exact he) (by exact hat) qao) .(Ia0 12) (heq))))) .(Ia4 4)) .(Exs.cons .(Ia5 .(Ia8) .(Iec .(Iab .(Ia0 13) (by exact he) (by exact hat) qao) .(Ia8) ha hY rfl hzz)) .(Exs.nil)))
end
section
variable (F:Fac W) {f:Nat->Int} {m:Nat} {z0:List AObj}
noncomputable abbrev qbr (N:Nat) (f:Nat->Int) (n:Nat):List (Option AV):=qhx N f n (n+1) (n+3) (n+5) (n+6)
noncomputable abbrev elN (n:Nat):AObj:=.elem atE (qaq A17 (.loc (n+1)) (.loc (n - 1)) (.str "note"))
noncomputable abbrev qv9 (m:Nat):AIt:=.tup [.tup [.loc (m+2),.loc (m+4)],.tup [.loc (m+7),.loc (m+9)],.tup [.loc (m+12),.loc (m+14)]]
noncomputable abbrev bkE (n:Nat):AObj:=.elem atE (qaq A17 (.loc (n+4)) (.loc (n+2)) (.str "book"))
include F in
theorem qo9 {e0:Nat}(hY:∀j,n<=j->Y j)(hl:σ.length=m)(hm:n+7<=m)(ht:σ[n+1]?=some tabO)(bk:σ[n+3]?=some (bkE n))(bi:σ[n+4]?=some (.lst [.loc e0])):∃T,Ext (n+4) σ T/\(∀(cd:Value) (fr:List Env),ItE ⟨W,Y,nm18.1,cd⟩ (k+2) fr (qbr N f n) σ (qkf (nth bd18.1 6)) (qv9 m) T)/\
    T[n+4]?=some (.lst [.loc e0,.loc (m+2),.loc (m+7),.loc (m+12)])/\T[m+2]?=some (elN (m+2))/\T[m+7]?=some (elN (m+7))/\T[m+12]?=some (elN (m+12))/\
    T[m+1]?=some (.dstr [] [])/\T[m+6]?=some (.dstr [] [])/\T[m+11]?=some tabO/\T[m+4]?=some (.dstr [] [])/\T[m+9]?=some (.dstr [] [])/\T[m+14]?=some tabO:=by
  have nm:∀j,m+j≠n+4:=fun j e=>by lia
  obtain ⟨T1,c1,E1,l1,b1,g1,h1⟩:=qqi F (Y:=Y) (k:=k) bk bi (hY _ (AZ _ _)) (Cm rfl);rw[hl] at c1 l1 b1 g1 h1;have p1:=E1.get bk (qc7 rfl);have l1':(T1 ++ [AObj.dstr [] []]).length=m+5:=by rw[Ao,l1];rfl
  obtain ⟨T2,c2,E2,l2,b2,g2,h2⟩:=qqi F (Y:=Y) (k:=k) (qac (τ:=[AObj.dstr [] []]) p1) (qac b1) (hY _ (AZ _ _)) (Cm rfl);rw[l1'] at c2 l2 b2 g2 h2;have p2:=E2.get (qac (τ:=[AObj.dstr [] []]) p1) (qc7 rfl);have l2':(T2 ++ [AObj.dstr [] []]).length=m+10:=by rw[Ao,l2];rfl
  have E02:Ext (n+4) σ (T2 ++ [AObj.dstr [] []]):=((E1.trans Ext.app).trans E2).trans Ext.app;obtain ⟨T3,c3,E3,l3,b3,g3,h3⟩:=qsz F (Y:=Y) (k:=k) (E02.get ht (qc7 rfl)) (qac (τ:=[AObj.dstr [] []]) p2) (qac b2) (hY _ (AZ _ _)) (Cm rfl);rw[l2'] at c3 l3 b3 g3 h3;have EA:Ext (n+4) (T1 ++ [AObj.dstr [] []]) (T3 ++ [tabO]):=((E2.trans Ext.app).trans E3).trans Ext.app;have EB:Ext (n+4) (T2 ++ [AObj.dstr [] []]) (T3 ++ [tabO]):=E3.trans Ext.app;have at0:∀{S:List AObj} {x:AObj} {m:Nat},S.length=m->(S ++ [x])[m]?=some x:=fun h=>qax (j:=0) h.symm
  refine ⟨T3 ++ [tabO],E02.trans EB,fun cd fr=>?_,qac b3,EA.get (qac h1) (nm _),EB.get (qac h2) (nm _),qac h3,EA.get (qac g1) (nm _),EB.get (qac g2) (nm _),qac g3,EA.get (at0 l1) (nm _),EB.get (at0 l2) (nm _),at0 l3⟩;have hkS:=(F.f11t .none .none .none [] [] (by decide) rfl rfl nofun (AI _)).kept;have h:ItE ⟨W,Y,nm18.1,cd⟩ (k+2) fr (qbr N f n) σ (qkf (nth bd18.1 6)) (.tup [.tup [.loc (m+2),.loc T1.length],.tup [.loc (m+7),.loc T2.length],.tup [.loc (m+12),.loc T3.length]]) (T3 ++ [tabO]):=by
    show ItE _ _ _ _ _ (.Tuple [.Tuple _ _ _,.Tuple _ _ _,.Tuple _ _ _] _ _) _ _;exact .(ItE.tuple .(Ev.tuple (Evs.cons .(Ev.tuple (Evs.cons .(Ev.call .(Iac 16 F.g_SubElement) (hkS) (Evs.cons .(Ia0 5) .((Evs.cons .(Ia8) .(Evs.nil)))) EvK.nil (c1 fr)) .((Evs.cons .(Icn) .(Evs.nil))))) .((Evs.cons .(Ev.tuple (Evs.cons .(Ev.call .(Iac 16 F.g_SubElement) (hkS) (Evs.cons .(Ia0 5) .((Evs.cons .(Ia8) .(Evs.nil)))) EvK.nil (c2 fr)) .((Evs.cons .(Icn) .(Evs.nil))))) .((Evs.cons .(Ev.tuple (Evs.cons .(Ev.call .(Iac 16 F.g_SubElement) (hkS) (Evs.cons .(Ia0 5) .((Evs.cons .(Ia8) .((Evs.cons .(Ia0 3) .(Evs.nil)))))) EvK.nil (c3 fr)) .((Evs.cons .(Ibw ["k","by"] (by with_unfolding_all exact EvP.cons .(Ia8) .(Ia1) (by with_unfolding_all exact EvP.cons .(Ia8) .(Ia8) (by with_unfolding_all exact EvP.nil))) Uu (by decide)) .(Evs.nil))))) .(Evs.nil))))))))
  rw[l1,l2,l3] at h;exact h
theorem qkj (h1:([]:List Str)[i]?=some x)(h2:([]:List AV)[i]?=some v):qdq ([]:List Str) [] x=some v:=by simp at h1
theorem qmi (h1:(["k","by"]:List Str)[i]?=some x)(h2:([.int 99,.str "hand"]:List AV)[i]?=some v):qdq (["k","by"]:List Str) [.int 99,.str "hand"] x=some v:=qqp (t:=99) true h1 h2
theorem qvb:∀v∈([.int 99,.str "hand"]:List AV),isD v=true/\(toP v).depth<=64:=qu3 true 99
include F in
theorem qm1 (hY:∀j,n<=j->Y j)(hm:n+7<=m){T:List AObj}(hx1:T[m+2]?=some (elN (m+2)))(hx2:T[m+7]?=some (elN (m+7)))(hx3:T[m+12]?=some (elN (m+12)))(ha1:T[m+1]?=some (.dstr [] []))(ha2:T[m+6]?=some (.dstr [] []))(ha3:T[m+11]?=some tabO)(hd1:T[m+4]?=some (.dstr [] []))(hd2:T[m+9]?=some (.dstr [] []))(hd3:T[m+14]?=some tabO):
    ∃U,(∀j,j≠m+1->j≠m+6->j≠m+11->U[j]?=T[j]?)/\U.length=T.length/\∀(cd:Value) (fr:List Env),ForC ⟨W,Y,nm18.1,cd⟩ (k+2) fr ta186.1 bo186.1 [] (qv9 m) 0 (qbr N f n) T .next (qbr N f n) U:=by
  have as:∀(cd:Value) (fr:List Env) (x d:Nat) (σ:List AObj),As ⟨W,Y,nm18.1,cd⟩ (k+2) fr (qbr N f n) σ ta186.1 (.tup [.loc x,.loc d]) (((qbr N f n).set 13 (some (.loc x))).set 12 (some (.loc d))) σ:=fun cd fr x d σ=>by
    show As _ _ _ _ _ (.Tuple _ _ _) _ _ _;exact .(As.tuple .(AsL.cons .(Ia4 13) .(AsL.cons .(Ia4 12) .(AsL.nil))))
  have le:∀j,Y (m+j):=fun j=>hY _ (by lia)
  have turn:=fun {e a d} {σ:List AObj} {ks vs avs} cd fr h1 h2 h3 h4 h5 h6 h7 h8 h9=>qn8 F (Y:=Y) (cd:=cd) (k:=k) (fr:=fr) (e:=e) (a:=a) (d:=d) (σ:=σ) (ks:=ks) (vs:=vs) (avs:=avs) (N:=N) (f:=f) (rl:=n) (tl:=n+1) (bl:=n+3) (b1:=n+5) (l1:=n+6) h1 h2 h3 h4 h5 h6 h7 h8 h9
  have n0:∀v∈([]:List AV),isD v=true/\(toP v).depth<=64:=fun _ h=>absurd h CJ
  refine ⟨_,fun j q1 q2 q3=>?_,?_,fun cd fr=>ForC.next Bb rfl rfl nofun (as cd fr _ _ T) (turn cd fr hx1 Uu ha1 hd1 rfl n0 (fun i x v=>qkj) (le 1) (by decide))
    (ForC.next Bb rfl rfl nofun (as cd fr _ _ _) (turn cd fr ((qaw (qc7 rfl)).trans hx2) Uu ((qaw (qc7 rfl)).trans ha2) ((qaw (qc7 rfl)).trans hd2) rfl n0 (fun i x v=>qkj) (le 6) (by decide))
    (ForC.next Bb rfl rfl nofun (as cd fr _ _ _) (turn cd fr ((qaw (qc7 rfl)).trans ((qaw (qc7 rfl)).trans hx3)) Uu ((qaw (qc7 rfl)).trans ((qaw (qc7 rfl)).trans ha3)) ((qaw (qc7 rfl)).trans ((qaw (qc7 rfl)).trans hd3)) rfl qvb (fun i x v=>qmi) (le 11) (by decide))
    (ForC.done Bb rfl Exs.nil)))⟩
  . rw[qaw (BH q3),qaw (BH q2),qaw (BH q1)]
  . rw[A5,A5,A5]
end
end
section
section
variable (F:Fac W) {f:Nat->Int} {m:Nat} {z0:List AObj}
structure qw1 (N:Nat) (f:Nat->Int) (n:Nat) (z0 σ:List AObj):Prop where
  len:n+7+5*N<=σ.length
  row:σ[n]?=some (.lst (qak n (Ac N)))
  els:∀s,s<N->σ[eL n s]?=some (elX n N f s)
  inn:∀s,s<N->σ[n+7+5*s+3]?=some (.lst (qak n (qfd N f s)))
  att:∀s,s<N->σ[n+7+5*s+1]?=some (.dstr (qgl (qfw f s)) (qgw (qfw f s) s))
  old:∀i,i<n->σ[i]?=z0[i]?
noncomputable abbrev ql5 (n:Nat):List AObj:=[.lst [],tabO,.dstr [] [],bkE n,.lst []]
noncomputable abbrev qk2 (N:Nat) (f:Nat->Int):List (Option AV):=[some (.lst (qas N f)),some (.lst (qd1 N f)),none,none,none,none,none,none,none,none,none,none,none,none,none,none,none,none,none]
include F in
theorem qs5 {rest:List Stmt}(hn:z0.length=n)(hK:qp0 W cd)(hY:∀j,Y (n+j))(h:Exs ⟨W,Y,nm18.1,cd⟩ (k+2) fr (qbr N f n) (z0 ++ qoa A17 n) rest fl m' z'):
    Exs ⟨W,Y,nm18.1,cd⟩ (k+2) fr (qk2 N f) z0 (nth bd18.1 0::nth bd18.1 1::nth bd18.1 2::nth bd18.1 3::rest) fl m' z':=by
  obtain ⟨lc,lP,hLam⟩:=hK;have ap:∀{τ:List AObj} {x:AObj},z0 ++ τ ++ [x]=z0 ++ (τ ++ [x]):=AX _ _ _;have ln:∀{τ:List AObj},(z0 ++ τ).length=n+τ.length:=fun {τ}=>by rw[Ao,hn]
  have hc:Calls W Y (k+2) fr (z0 ++ [AObj.lst [],tabO] ++ [.dstr [] []]) (.glob (.ref A17)) [.str "book",.loc (z0 ++ [AObj.lst [],tabO]).length] [] [] (.loc (n+3)) (z0 ++ ql5 n):=
    Iap (qed F (k:=k+1) (tag:=.str "book") (attr:=.loc (z0 ++ [AObj.lst [],tabO]).length) rfl rfl) (by rw[ap,ln];rfl) (by rw[ap,ln,ln,AX];rfl)
  have hkE:=(F.f17 .none .none).kept;have e0:z0 ++ [AObj.lst []] ++ [tabO]=z0 ++ [.lst [],tabO]:=ap;have v0:AV.tup [.loc z0.length,.loc (z0 ++ [AObj.lst []]).length,.bool true]=.tup [.loc n,.loc (n+1),.bool true]:=by rw[ln,hn];rfl
  have e1:z0 ++ ql5 n ++ [AObj.fn0] ++ [.fn0]=z0 ++ (ql5 n ++ [.fn0,.fn0]):=by rw[ap,ap];rfl
  have v1:AV.tup [.loc (n+3),.loc (z0 ++ ql5 n).length,.loc (z0 ++ ql5 n ++ [AObj.fn0]).length]=.tup [.loc (n+3),.loc (n+5),.loc (n+6)]:=by rw[ap,ln,ln];rfl
  have s0:Ex ⟨W,Y,nm18.1,cd⟩ (k+2) fr (qk2 N f) z0 (nth bd18.1 0) .next ((((qk2 N f).set 2 (some (.loc n))).set 3 (some (.loc (n+1)))).set 4 (some (.bool true))) (z0 ++ [.lst [],tabO]):=by
    show Ex _ _ _ _ _ (.Assign _ _ _) _ _ _;exact .(Id1 (i:=2) (j:=3) (l:=4) .(Ibu .(Ev.tuple (Evs.cons .(Ian Evs.nil) .((Evs.cons .(Ibw ["k","by"] (by with_unfolding_all exact EvP.cons .(Ia8) .(Ia1) (by with_unfolding_all exact EvP.cons .(Ia8) .(Ia8) (by with_unfolding_all exact EvP.nil))) Uu (by decide)) .((Evs.cons .(Ibd) .(Evs.nil))))))) e0 v0) Uu Uu Uu (by decide) (by decide) (by decide) Uu Uu Uu)
  have s1:Ex ⟨W,Y,nm18.1,cd⟩ (k+2) fr ((((qk2 N f).set 2 (some (.loc n))).set 3 (some (.loc (n+1)))).set 4 (some (.bool true))) (z0 ++ [.lst [],tabO]) (nth bd18.1 1) .next (((((((qk2 N f).set 2 (some (.loc n))).set 3 (some (.loc (n+1)))).set 4 (some (.bool true))).set 5 (some (.loc (n+3)))).set 6 (some (.loc (n+5)))).set 7 (some (.loc (n+6)))) (z0 ++ (ql5 n ++ [.fn0,.fn0])):=by
    show Ex _ _ _ _ _ (.Assign _ _ _) _ _ _;exact .(Id1 (i:=5) (j:=6) (l:=7) .(Ibu .(Ev.tuple (Evs.cons .(Ev.call .(Iac 14 F.g_law_element) (hkE) (Evs.cons .(Ia8) .((Evs.cons .(Icn) .(Evs.nil)))) EvK.nil (hc)) .((Evs.cons .(Ic9 (hLam _ _) (qnb (by kernel_rfl))) .((Evs.cons .(Ic9 (hLam _ _) (qnb (by kernel_rfl))) .(Evs.nil))))))) e1 v1) Uu Uu Uu (by decide) (by decide) (by decide) Uu Uu Uu)
  have s2:Ex ⟨W,Y,nm18.1,cd⟩ (k+2) fr (qbr N f n) (z0 ++ (ql5 n ++ [.fn0,.fn0])) (nth bd18.1 2) .next (qbr N f n) (z0 ++ (ql5 n ++ [.elem ["attrib"] [.loc (n+1)],.fn0])):=by
    show Ex _ _ _ _ _ (.Assign _ _ _) _ _ _;have g:(z0 ++ (ql5 n ++ [AObj.fn0,.fn0]))[n+5]?=some .fn0:=qax (j:=5) (by rw[hn]);have s:(z0 ++ (ql5 n ++ [AObj.fn0,.fn0])).set (n+5) (.elem ["attrib"] [.loc (n+1)])=z0 ++ (ql5 n ++ [.elem ["attrib"] [.loc (n+1)],.fn0]):=qda (j:=5) (by rw[hn]);have y:=hY 5;exact .(Ia5 .(Ia0 3) .(Ibp .(Icq .(Ia0 6) (by exact g) qao (by exact y)) s))
  have s3:Ex ⟨W,Y,nm18.1,cd⟩ (k+2) fr (qbr N f n) (z0 ++ (ql5 n ++ [.elem ["attrib"] [.loc (n+1)],.fn0])) (nth bd18.1 3) .next (qbr N f n) (z0 ++ qoa A17 n):=by
    show Ex _ _ _ _ _ (.Assign _ _ _) _ _ _;have g:(z0 ++ (ql5 n ++ [AObj.elem ["attrib"] [.loc (n+1)],.fn0]))[n+6]?=some .fn0:=qax (j:=6) (by rw[hn]);have s:(z0 ++ (ql5 n ++ [AObj.elem ["attrib"] [.loc (n+1)],.fn0])).set (n+6) (.elem ["tag"] [.str "lone"])=z0 ++ qoa A17 n:=qda (j:=6) (by rw[hn]);have y:=hY 6;exact .(Ia5 .(Ia8) .(Ibp .(Icq .(Ia0 7) (by exact g) qdr (by exact y)) s))
  have em:(((((((qk2 N f).set 2 (some (.loc n))).set 3 (some (.loc (n+1)))).set 4 (some (.bool true))).set 5 (some (.loc (n+3)))).set 6 (some (.loc (n+5)))).set 7 (some (.loc (n+6))))=qbr N f n:=by kernel_rfl
  rw[em] at s1;with_reducible exact Exs.cons s0 (Exs.cons s1 (Exs.cons s2 (Exs.cons s3 h)))
include F in
theorem qq2 {e0:Nat}{U:List AObj}{v0:List AV}(u0:U[n]?=some (.lst v0))(u1:U[n+1]?=some tabO)(u3:U[n+3]?=some (bkE n))(u4:U[n+4]?=some (.lst [.loc e0,.loc (m+2),.loc (m+7),.loc (m+12)]))(u5:U[n+5]?=some (.elem ["attrib"] [.loc (n+1)]))(u6:U[n+6]?=some (.elem ["tag"] [.str "lone"]))(ux1:U[m+2]?=some (elN (m+2)))(ux2:U[m+7]?=some (elN (m+7)))(ux3:U[m+12]?=some (elN (m+12))):Exs ⟨W,Y,nm18.1,cd⟩ (k+2) fr (qbr N f n) U [nth bd18.1 7,nth bd18.1 8] (.ret (.tup [.loc n,.bool true])) ((qbr N f n).set 4 (some (.bool true))) (U ++ [tabO]):=by
  obtain ⟨xs,hxs⟩:∃xs:List Nat,xs=[m+2,m+7,m+12]:=⟨_,rfl⟩
  have htg:∀x∈xs,U[x]?=some (elN x):=hxs ▸ fac ux1 (fac ux2 (fac ux3 fa0));have hsl0:AV.lst (qbq [.loc e0,.loc (m+2),.loc (m+7),.loc (m+12)] (some 1) none none)=.lst (xs.map fun x=>AV.loc x):=by rw[hxs];exact congrArg AV.lst (qe6 _ 1)
  have hxz:xs.length<=2 ^ 20:=by rw[hxs];exact (by decide:3<=2 ^ 20)
  have hz4:[AV.loc e0,.loc (m+2),.loc (m+7),.loc (m+12)].length<=Ai:=by exact (by decide:4<=Ai)
  have hsl:xs.map (fun _=>AV.str "note")=[.str "note",.str "note",.str "note"]:=by rw[hxs];rfl
  have hDr:D1 64 (.lst [.str "note",.str "note",.str "note"]):=⟨by decide +kernel,by decide +kernel⟩
  have hDl:D1 64 (.lst (xs.map fun _=>AV.str "note")):=hsl ▸ hDr;have hcmp:true=true↔AV.lst (xs.map fun _=>AV.str "note")=.lst [.str "note",.str "note",.str "note"]:=⟨fun _=>congrArg AV.lst hsl,fun _=>rfl⟩
  have htq:=Ic0 (W:=W) (Y:=Y) (k:=k+2) (fr:=fr) (σ:=U ++ [tabO]) (n:=n+1) (n':=U.length) (qac u1) (qax (j:=0) rfl) rfl rfl qvb (fun i x v h1 h2=>qmi h1 h2);have hkI:=(F.f10 .none).kept;have hi1:Calls W Y (k+2) fr (U ++ [tabO]) (.glob (.ref A10)) [.loc (n+6)] [] [] (.bool true) (U ++ [tabO]):=qtt F (k:=k+1) fun k fr Y=>Iby (qac u6) Uu rfl qdr
  have hi2:Calls W Y (k+2) fr (U ++ [tabO]) (.glob (.ref A10)) [.loc (n+5)] [] [] (.bool false) (U ++ [tabO]):=qtt F (k:=k+1) fun k fr Y=>Icv (qac u5) (by decide) qdr (by decide) (by decide +kernel)
  have hi3:Calls W Y (k+2) fr (U ++ [tabO]) (.glob (.ref A10)) [.loc n] [] [] (.bool false) (U ++ [tabO]):=qtt F (k:=k+1) fun k fr Y=>Icc (Lv.loc (qac u0))
  have hi4:Calls W Y (k+2) fr (U ++ [tabO]) (.glob (.ref A10)) [.loc (n+1)] [] [] (.bool false) (U ++ [tabO]):=qtt F (k:=k+1) fun k fr Y=>Icd (qac u1)
  have s6:Ex ⟨W,Y,nm18.1,cd⟩ (k+2) fr (qbr N f n) U (nth bd18.1 7) .next ((qbr N f n).set 4 (some (.bool true))) (U ++ [tabO]):=by
    show Ex _ _ _ _ _ (.Assign _ _ _) _ _ _;exact .(Ia5 .(Ibt .(EvAnd.cons .(Ia0 4) .(EvAnd.cons .(Iav .(Iak .(ItE.list .(Iag .(Iaz .(Iab .(Ia0 5) (by exact u3) Uu qc0) (Iao .(Ia1)) EvO.none EvO.none (by exact Lv.loc u4) (by simp) (by assumption)) hsl0) .(Lv.fz)) (CompIn.of [none,none] (by kernel_rfl) (by kernel_rfl)) .(CompC.map Uu (xs) ((fun x:Nat=>AV.loc x)) ((fun _=>AV.str "note")) _ (fun x hx=>.(Ia4 1)) (fun x hx=>.(Iab .(Ia0 1) (by exact htg x hx) Uu qdr)) .(fun _=>Weak.set Uu) (hp:=by with_unfolding_all exact qae (fun _=>rfl) _) (hz:=by assumption))) .(Ev.list (Evs.cons .(Ia8) .((Evs.cons .(Ia8) .((Evs.cons .(Ia8) .(Evs.nil))))))) (Ibo (Dv.of hDl) (Dv.of hDr) hcmp)) .(EvAnd.one .(Iav .(Ia0 3) .(Ibw ["k","by"] (by with_unfolding_all exact EvP.cons .(Ia8) .(Ia1) (by with_unfolding_all exact EvP.cons .(Ia8) .(Ia8) (by with_unfolding_all exact EvP.nil))) Uu (by decide)) (htq)))))) .(Ia4 4))
  have s7:Ex ⟨W,Y,nm18.1,cd⟩ (k+2) fr ((qbr N f n).set 4 (some (.bool true))) (U ++ [tabO]) (nth bd18.1 8) (.ret (.tup [.loc n,.bool true])) ((qbr N f n).set 4 (some (.bool true))) (U ++ [tabO]):=by
    show Ex _ _ _ _ _ (.Return _ _) _ _ _;exact .(Iaj .(Ev.tuple (Evs.cons .(Ia0 2) .((Evs.cons .(Ibt .(EvAnd.cons .(Ia0 4) .(EvAnd.cons .(Iav .(Ev.call .(Iac 17 F.g_iselement) (hkI) (Evs.cons .(Ia0 7) .(Evs.nil)) EvK.nil (hi1)) .(Ibd) (Ic2 Ib4 rfl)) .(EvAnd.cons .(Iav .(Ev.call .(Iac 17 F.g_iselement) (hkI) (Evs.cons .(Ia0 6) .(Evs.nil)) EvK.nil (hi2)) .(Ibd) (Ic2 Ib4 rfl)) .(EvAnd.cons .(Iav .(Ev.call .(Iac 17 F.g_iselement) (hkI) (Evs.cons .(Ia0 2) .(Evs.nil)) EvK.nil (hi3)) .(Ibd) (Ic2 Ib4 rfl)) .(EvAnd.one .(Iav .(Ev.call .(Iac 17 F.g_iselement) (hkI) (Evs.cons .(Ia0 3) .(Evs.nil)) EvK.nil (hi4)) .(Ibd) (Ic2 Ib4 rfl)))))))) .(Evs.nil))))))
  with_reducible exact Exs.cons s6 (Exs.ret s7)
include F in
theorem qj0 (h74:N=7\/N=4):∃z',qw1 N f z0.length z0 z'/\∀fr,Calls W Y (k+3) fr z0 (.glob (.ref A18)) [.lst (qas N f),.lst (qd1 N f)] [] [] (.tup [.loc z0.length,.bool true]) z':=by
  obtain ⟨n,hn⟩:∃n,z0.length=n:=⟨_,rfl⟩
  rw[hn];have hN:N<=7:=by lia
  have hN0:0<N:=by lia
  have new:∀j,(z0 ++ qoa A17 n)[n+j]?=(qoa A17 n)[j]?:=fun j=>qax (by rw[hn])
  have D0:DocI W f n 0 z0 (z0 ++ qoa A17 n):=⟨by rw[Ao,hn];rfl,new 0,fun {j x} _ hx=>(new j).trans hx,new 4,fun s hs=>absurd hs (B8 s),fun s hs=>absurd hs (B8 s),fun s hs=>absurd hs (B8 s),fun i hi=>BC (hn ▸ hi)⟩
  have hY:∀m,n<=m->(fun m=>Y m\/n<=m) m:=fun m hm=>.inr hm
  refine qa5 (qq3 F (k:=k) hN hY N 0 _ (Eo N) D0) ?_;intro σ1 D5 hl1;refine qa5 (qpy F (k:=k) hN D5 hY N 0 σ1 (Eo N) ⟨rfl,fun s hs=>by rw[if_neg (by simp_all)];exact D5.els s hs,fun j _=>rfl⟩) ?_;intro τ E hle;have hl5:τ.length=n+7+5*N:=E.len.trans D5.len;have tf:∀{j x},j∈[1,3,5,6]->(qoa A17 n)[j]?=some x->τ[n+j]?=some x:=fun {j x} hj hx=>(E.rest _ fun s _=>by have:=(qhp hj).2.1;unfold eL;lia).trans (D5.fix hj hx)
  have t4:τ[n+4]?=some (.lst [.loc (n+7+5*0+2)]):=(E.rest _ fun s _=>by unfold eL;lia).trans (D5.bookI.trans (by rw[if_neg (C1 hN0)]));obtain ⟨T,E1,hit,T4,x1,x2,x3,a1,a2,a3,d1,d2,d3⟩:=qo9 F (N:=N) (f:=f) (k:=k) hY hl5 (AZ _ _) (tf (j:=1) (by decide) rfl) (tf (j:=3) (by decide) rfl) t4;refine qaj (qm1 F (N:=N) (f:=f) (k:=k) hY (AZ _ _) x1 x2 x3 a1 a2 a3 d1 d2 d3) ?_;intro U hU hUl hl2;have hUo:∀{j x},j<n+7+5*N->j≠n+4->τ[j]?=some x->U[j]?=some x:=fun {j x} h1 h2 h3=>(hU j (by lia) (by lia) (by lia)).trans (E1.get h3 h2)
  have F5:∀{j x},j∈[1,3,5,6]->(qoa A17 n)[j]?=some x->U[n+j]?=some x:=fun h hx=>hUo (by have:=(qhp h).2.1;lia) (by have:=(qhp h).2.2;lia) (tf h hx)
  have u0:U[n]?=some (.lst (qak n (Ac N))):=hUo (by lia) (by lia) ((E.rest _ fun s _=>by unfold eL;lia).trans D5.row);have up:∀{i x},U[i]?=some x->(U ++ [tabO])[i]?=some x:=qac;have hTl:n+7+5*N<=U.length:=hUl ▸ hl5 ▸ E1.1;have i3:∀s,s<N->τ[n+7+5*s+3]?=some (.lst (qak n (qfd N f s))):=fun s hs=>(E.rest _ fun x _=>by unfold eL;lia).trans (D5.inn s hs)
  have i1:∀s,s<N->τ[n+7+5*s+1]?=some (.dstr (qgl (qfw f s)) (qgw (qfw f s) s)):=fun s hs=>(E.rest _ fun x _=>by unfold eL;lia).trans (D5.att s hs)
  have i2:∀s,s<N->τ[eL n s]?=some (elX n N f s):=fun s hs=>(E.els s hs).trans (by rw[if_pos (Ck _ _)])
  refine ⟨U ++ [tabO],⟨by rw[Ao];exact C4 hTl,up u0,fun s hs=>up (hUo (by unfold eL;lia) (by unfold eL;lia) (i2 s hs)),fun s hs=>up (hUo (by lia) (by lia) (i3 s hs)),fun s hs=>up (hUo (by lia) (by lia) (i1 s hs)),fun i hi=>?_⟩,fun fr=>?_⟩
  . rw[BC (by omega),hU i (by omega) (by omega) (by omega),E1.2 i (by omega) (by omega),E.rest i fun s _=>by unfold eL;omega];exact D5.old i hi
  . refine Ibl (F.f18 (.lst (qas N f)) (.lst (qd1 N f))) (m':=(qbr N f n).set 4 (some (.bool true))) (fl:=.ret (.tup [.loc n,.bool true])) (fun cd env hK=>Exs.f ?_) (by rw[hn,Ao];omega) rfl rfl;rw[hn];have l4:Ex ⟨W,fun m=>Y m\/n<=m,nm18.1,cd⟩ (k+2) (env::fr) (qbr N f n) (z0 ++ qoa A17 n) (nth bd18.1 4) .next (qbr N f n) σ1:=by
      show Ex _ _ _ _ _ (.For _ _ _ _ _) _ _ _;have hl1:=hl1 cd (env::fr);exact .(Ib3 .(ItE.call .(Iah 15 F.b_enumerate) .(Kept.type) (Evs.cons .(Ia0 0) .(Evs.nil)) .(CallIt.enum (Lv.fz))) (by with_unfolding_all exact ForC.pre hl1 .(Weak.refl)))
    have l5:Ex ⟨W,fun m=>Y m\/n<=m,nm18.1,cd⟩ (k+2) (env::fr) (qbr N f n) σ1 (nth bd18.1 5) .next (qbr N f n) τ:=by
      show Ex _ _ _ _ _ (.For _ _ _ _ _) _ _ _;have hle:=hle cd (env::fr);have hrv:AV.lst (qbq (qak n (Ac N)) none none (some (-1)))=.lst (qak n (Ac N)).reverse:=congrArg AV.lst (qmu h74);have hzr:(qak n (Ac N)).length<=Ai:=by rw[Ab,AM,Ay];omega
      have hrow:=D5.row;exact .(Ib3 .(ItE.list .(Iag .(Iaz .(Ia0 2) EvO.none EvO.none (Iao .(Ic3 .(Ia1))) (by exact Lv.loc hrow) (by simp) (by assumption)) hrv) .(Lv.fz)) (by with_unfolding_all exact ForC.pre hle .(Weak.refl)))
    have l6:Ex ⟨W,fun m=>Y m\/n<=m,nm18.1,cd⟩ (k+2) (env::fr) (qbr N f n) τ (nth bd18.1 6) .next (qbr N f n) U:=by
      show Ex _ _ _ _ _ (.For _ _ _ _ _) _ _ _;have hit:=hit cd (env::fr);have hl2:=hl2 cd (env::fr);exact .(Ib3 (by with_unfolding_all exact hit) (by with_unfolding_all exact ForC.pre hl2 .(Weak.refl)))
    have p:=qq2 F (n:=n) (Y:=fun m=>Y m\/n<=m) (cd:=cd) (k:=k) (fr:=env::fr) (N:=N) (f:=f) u0 (F5 (j:=1) (by decide) rfl) (F5 (j:=3) (by decide) rfl) ((hU _ (by omega) (by omega) (by omega)).trans T4) (F5 (j:=5) (by decide) rfl) (F5 (j:=6) (by decide) rfl) ((hU _ (by omega) (by omega) (by omega)).trans x1) ((hU _ (by omega) (by omega) (by omega)).trans x2) ((hU _ (by omega) (by omega) (by omega)).trans x3);have r:Exs ⟨W,fun m=>Y m\/n<=m,nm18.1,cd⟩ (k+2) (env::fr) (qbr N f n) (z0 ++ qoa A17 n) [nth bd18.1 4,nth bd18.1 5,nth bd18.1 6,nth bd18.1 7,nth bd18.1 8] (.ret (.tup [.loc n,.bool true])) ((qbr N f n).set 4 (some (.bool true))) (U ++ [tabO]):=by with_reducible exact Exs.cons l4 (Exs.cons l5 (Exs.cons l6 p))
    have y:∀j,(fun m=>Y m\/n<=m) (n+j):=fun j=>hY (n+j) (AZ n j)
    have e:Exs ⟨W,fun m=>Y m\/n<=m,nm18.1,cd⟩ (k+2) (env::fr) (qk2 N f) z0 [nth bd18.1 0,nth bd18.1 1,nth bd18.1 2,nth bd18.1 3,nth bd18.1 4,nth bd18.1 5,nth bd18.1 6,nth bd18.1 7,nth bd18.1 8] (.ret (.tup [.loc n,.bool true])) ((qbr N f n).set 4 (some (.bool true))) (U ++ [tabO]):=by with_reducible exact qs5 F hn hK y r
    have hb:bd18.1=[nth bd18.1 0,nth bd18.1 1,nth bd18.1 2,nth bd18.1 3,nth bd18.1 4,nth bd18.1 5,nth bd18.1 6,nth bd18.1 7,nth bd18.1 8]:=by kernel_rfl
    rw[hb];with_reducible exact e
end
end
section
structure DocS (N:Nat) (f:Nat->Int) (n:Nat) (σ:List AObj):Prop where
  row:σ[n]?=some (.lst (qak n (Ac N)))
  els:∀s,s<N->σ[eL n s]?=some (elX n N f s)
  inn:∀s,s<N->σ[n+7+5*s+3]?=some (.lst (qak n (qfd N f s)))
  att:∀s,s<N->σ[n+7+5*s+1]?=some (.dstr (qgl (qfw f s)) (qgw (qfw f s) s))
theorem DocS.keep {f:Nat->Int}(D:DocS N f n σ)(h:∀i,n<=i->i<n+7+5*N->τ[i]?=σ[i]?):DocS N f n τ where
  row:=(h _ (Ak _) (by lia)).trans D.row
  els s hs:=(h _ (by unfold eL;lia) (by unfold eL;lia)).trans (D.els s hs)
  inn s hs:=(h _ (by lia) (by lia)).trans (D.inn s hs)
  att s hs:=(h _ (by lia) (by lia)).trans (D.att s hs)
theorem DocS.app {f:Nat->Int}(D:DocS N f n σ):DocS N f n (σ ++ τ):=⟨qac D.row,fun s hs=>qac (D.els s hs),fun s hs=>qac (D.inn s hs),fun s hs=>qac (D.att s hs)⟩
theorem DocS.set {f:Nat->Int}{x:AObj}(D:DocS N f n σ)(h:j<n\/n+7+5*N<=j):DocS N f n (σ.set j x):=D.keep fun i h1 h2=>qaw (by lia)
theorem qkm {s:Nat}(h:s<N):(qak n (Ac N))[s]?=some (.loc (eL n s)):=by rw[Aj,Ba h];rfl
theorem qjn {D:List Nat}(h:j<D.length):(qa0 D)[j]?=some (.int ((D.getD j 0:Nat):Int)):=by
  rw[Aj,Ad h,Ae,Ad h];rfl
section
variable (F:Fac W) {s:Nat} {f:Nat->Int}
include F in
theorem qby (D:DocS N f n σ)(hs:s<N)(k:Nat)(fr:List Env)(Y:Nat->Prop):Calls W Y (k+1) fr σ (.glob (.ref A19)) [.loc (eL n s)] [] [] (.int (qa6 N f s:Nat)) σ:=by
  have g:=D.els s hs;refine Iax (F.f19 (.loc (eL n s))) (m':=[]) (fl:=.ret (.int (qa6 N f s:Nat))) (fun cd env _=>?_) rfl rfl;refine Exs.f (Iae (m2:=[some (.loc (eL n s))]) ?_);show Exs _ _ _ _ _ (_::_) _ _ _;exact .(Exs.ret .(Iaj .(Iab .(Ia0 0) (by exact g) Uu qdt)))
end
noncomputable def ta20b:PSigma (fun l=>(qbl (nth (qbp (nth bd20.1 1)) 1))=l):=⟨_,by conv=>lhs;whnf⟩
noncomputable def bo20b:PSigma (fun l=>(qbp (nth (qbp (nth bd20.1 1)) 1))=l):=⟨_,by conv=>lhs;whnf⟩
noncomputable abbrev qdh (Ds:List (List Nat)):List AV:=Ds.map fun D=>AV.lst (qa0 D)
noncomputable def qpg (rn gl fd L:Nat) (Ds:List (List Nat)):List (Option AV):=[some (.loc rn),some (.loc gl),some (.loc fd),none,some (.lst (qdh Ds)),some (.loc L),some (.loc (L+1)),some (.loc (L+2)),none,none,none,none,none,none,none,none,none,none]
noncomputable def inM (rn gl fd L:Nat) (Ds:List (List Nat)) (n r:Nat) (q:Bool×Nat):List (Option AV):=[some (.loc rn),some (.loc gl),some (.loc fd),some (.loc (eL n r)),some (.lst (qdh Ds)),some (.loc L),some (.loc (L+1)),some (.loc (L+2)),some (.int ((q.2:Nat):Int)),some (.bool q.1),none,none,none,none,none,none,none,none]
section
variable (F:Fac W) {gl fd L:Nat} {f:Nat->Int} {Ds:List (List Nat)} {q:Bool×Nat}
include F in
theorem qro (D:DocS 7 f n σ)(hr:r<7){I:List Nat}(hI:I.Pairwise (· < ·))(hI7:∀x∈I,x<7)(hIz:I.length<=1000):
    Exs ⟨W,Y,nm20.1,cd⟩ (k+1) fr ((inM n gl fd L Ds n r q).set 10 (some (.lst (qa0 I)))) σ bo20b.1 .next (inM n gl fd L Ds n r (grS (qa6 7 f) (qa6 7 f r) q I)) σ:=by
  obtain ⟨g,a⟩:=q;have hz:(qa0 I).length<=Ai:=by rw[Ab,Ay];lia
  have hval:∀j:Nat,0<=j->j<(qa0 I).length->(qa0 I)[j]?=some (.int ((I.getD j 0:Nat):Int)):=fun j _ h=>qjn (by rwa[Ab] at h)
  have hge:∀j (h:j<(qa0 I).length),I[j]?=some (I.getD j 0):=fun j h=>by
    rw[Ab] at h;rw[Ae,Ad h];rfl
  have hl:∀e,qcl I e<=(qa0 I).length:=fun e=>by rw[Ab];exact qhu I e
  have c1:Calls W Y (k+1) fr σ (.glob (.ref A2)) [.lst (qa0 I),.int ((a:Nat):Int)] [] [] (.int (qcl I a:Nat)) σ:=
    qv6 F (lo:=0) (κ:=fun j=>((I.getD j 0:Nat):Int)) Lv.fz hval hz (.inl ⟨rfl,rfl⟩) (Ak _) (AI _) (hl a) (fun j _ h=>by
      have h1:=qdi (a:=a) hI j _ (hge j h);simp only[CF];lia) (F.f2n2 _ _)
  have c2:Calls W Y (k+1) fr σ (.glob (.ref A4)) [.lst (qa0 I),.int ((qa6 7 f r:Nat)+1)] [] [] (.int (qcl I (qa6 7 f r):Nat)) σ:=
    qua F (lo:=0) (κ:=fun j=>((I.getD j 0:Nat):Int)) Lv.fz hval hz (.inl ⟨rfl,rfl⟩) (Ak _) (AI _) (hl _) (fun j _ h=>by
      have h1:=qdi (a:=qa6 7 f r) hI j _ (hge j h);show ((I.getD j 0:Nat):Int)<(qa6 7 f r:Nat)+1↔_
      grind) (F.f4n2 _ _)
  have hk1:=(F.f2k4 .none .none .none .none .none).kept;have hk2:=(F.f4k4 .none .none .none .none .none).kept;have ge:=D.els r hr;have hrow:=D.row;have hzr:(qak n (Ac 7)).length<=Ai:=by exact (by decide:7<=Ai)
  by_cases h:qcl I a<qcl I (qa6 7 f r)
  . have hd:decide (((qcl I a:Nat):Int)<((qcl I (qa6 7 f r):Nat):Int))=true:=decide_eq_true (CF.mpr h);have hli:=Ah h (qhu I _);have hx:=qjn hli;have hx7:I.getD (qcl I a) 0<7:=hI7 _ (Aw (hge _ (by rw[Ab];exact hli)));have gx:=D.els _ hx7;have hrx:=qkm (n:=n) hx7;have eg:grS (qa6 7 f) (qa6 7 f r) (g,a) I=(g,qa6 7 f (I.getD (qcl I a) 0)):=by unfold grS;rw[if_pos h]
    rw[eg];have hv:AV.bool (g&&decide (((qcl I a:Nat):Int)<((qcl I (qa6 7 f r):Nat):Int)))=.bool g:=by rw[hd,Bool.and_true]
    refine Exs.post (m2:=(((((inM n gl fd L Ds n r (g,a)).set 10 (some (.lst (qa0 I)))).set 11 (some (.int (qcl I a:Nat)))).set 12 (some (.int (qcl I (qa6 7 f r):Nat)))).set 9 (some (.bool g))).set 8 (some (.int (qa6 7 f (I.getD (qcl I a) 0):Nat)))) ?_ (by with_unfolding_all exact Ia6 261120);show Exs _ _ _ _ _ (_::_) _ _ _;exact .(Exs.cons .(Ic8 (i:=11) (j:=12) .(Ev.tuple (Evs.cons .(Ev.call .(Iac 13 F.g_bisect_right) (hk1) (Evs.cons .(Ia0 10) .((Evs.cons .(Ia0 8) .(Evs.nil)))) EvK.nil (c1)) .((Evs.cons .(Ev.call .(Iac 14 F.g_bisect_left) (hk2) (Evs.cons .(Ia0 10) .((Evs.cons .(Ia2 .(Iab .(Ia0 3) (by exact ge) Uu qdt) .(Ia1) .(Iai)) .(Evs.nil)))) EvK.nil (c2)) .(Evs.nil))))) Uu Uu (by decide) Uu Uu) .(Exs.cons .(Ia5 .(Iag .(Idr .(Ia0 9) .(Iav .(Ia0 11) .(Ia0 12) .(Op2.lt))) (hv)) .(Ia4 9)) .(Exs.cons .(Ia5 .(Ib9 (c:=true) .(Iaa .(Ia3 .(Ia0 11) .(Ia0 12) .(Op2.lt)) hd) (fun _=>.(Iab .(Ia9 .(Iad 0) .(Ia9 .(Ia0 10) .(Ia0 11) .(Lv.fz) (by exact qbc rfl hx) (by exact hz)) (by exact Lv.loc hrow) (by exact qbc rfl hrx) (by exact hzr)) (by exact gx) Uu qdt)) (fun h=>nomatch h)) .(Ia4 8)) .(Exs.nil))))
  . have hd:decide (((qcl I a:Nat):Int)<((qcl I (qa6 7 f r):Nat):Int))=false:=decide_eq_false fun q=>h (CF.mp q)
    have eg:grS (qa6 7 f) (qa6 7 f r) (g,a) I=(false,qa6 7 f r):=by unfold grS;rw[if_neg h]
    rw[eg];have hv:AV.bool (g&&decide (((qcl I a:Nat):Int)<((qcl I (qa6 7 f r):Nat):Int)))=.bool false:=by rw[hd,CP]
    refine Exs.post (m2:=(((((inM n gl fd L Ds n r (g,a)).set 10 (some (.lst (qa0 I)))).set 11 (some (.int (qcl I a:Nat)))).set 12 (some (.int (qcl I (qa6 7 f r):Nat)))).set 9 (some (.bool false))).set 8 (some (.int (qa6 7 f r:Nat)))) ?_ (by with_unfolding_all exact Ia6 261120);show Exs _ _ _ _ _ (_::_) _ _ _;exact .(Exs.cons .(Ic8 (i:=11) (j:=12) .(Ev.tuple (Evs.cons .(Ev.call .(Iac 13 F.g_bisect_right) (hk1) (Evs.cons .(Ia0 10) .((Evs.cons .(Ia0 8) .(Evs.nil)))) EvK.nil (c1)) .((Evs.cons .(Ev.call .(Iac 14 F.g_bisect_left) (hk2) (Evs.cons .(Ia0 10) .((Evs.cons .(Ia2 .(Iab .(Ia0 3) (by exact ge) Uu qdt) .(Ia1) .(Iai)) .(Evs.nil)))) EvK.nil (c2)) .(Evs.nil))))) Uu Uu (by decide) Uu Uu) .(Exs.cons .(Ia5 .(Iag .(Idr .(Ia0 9) .(Iav .(Ia0 11) .(Ia0 12) .(Op2.lt))) (hv)) .(Ia4 9)) .(Exs.cons .(Ia5 .(Ib9 (c:=false) .(Iaa .(Ia3 .(Ia0 11) .(Ia0 12) .(Op2.lt)) hd) (fun h=>nomatch h) (fun _=>.(Iab .(Ia0 3) (by exact ge) Uu qdt))) .(Ia4 8)) .(Exs.nil))))
include F in
theorem qrp (D:DocS 7 f n σ)(hr:r<7):∀(rest done:List (List Nat)) (q:Bool×Nat),done ++ rest=Ds->(∀I∈Ds,I.Pairwise (· < ·)/\(∀x∈I,x<7)/\I.length<=1000)->
    ForC ⟨W,Y,nm20.1,cd⟩ (k+1) fr ta20b.1 bo20b.1 [] (.seq (.lst (qdh Ds)) (qdh Ds)) done.length (inM n gl fd L Ds n r q) σ .next (inM n gl fd L Ds n r (gr (qa6 7 f) (qa6 7 f r) rest q)) σ:=by
  intro rest;induction rest with
  | nil=>
    intro done q h _;rw[Bf] at h;exact ForC.done Lv.fz (by show (qdh Ds).length=_;rw[Ab,h]) Exs.nil
  | cons I rest ih=>
    intro done q h hD;have hI:=hD I (by rw[<- h];simp);have h':=ih (done ++ [I]) (grS (qa6 7 f) (qa6 7 f r) q I) (by rw[AX];exact h) hD;rw[Ao] at h';refine ForC.next (m1:=(inM n gl fd L Ds n r q).set 10 (some (.lst (qa0 I)))) (z1:=σ) (v:=.lst (qa0 I)) Lv.fz (qa3 (fun D=>qa3 (fun _=>rfl) D) _) ?_ nofun ?_ (qro F D hr hI.1 hI.2.1 hI.2.2) h'
    . show (qdh Ds)[done.length]?=_;rw[Aj,<- h,CQ (Ak _),Nat.sub_self];rfl
    . have hp:plain (.lst (qa0 I))=true:=qa3 (fun _=>rfl) _;show As _ _ _ _ _ (.Name _ _) _ _ _;exact .(Ia4 10 (hp:=(by assumption)))
end
end
section
noncomputable def bo20:PSigma (fun l=>(qbp (nth bd20.1 1))=l):=⟨_,by conv=>lhs;whnf⟩
noncomputable def ta20:PSigma (fun l=>(qbl (nth bd20.1 1))=l):=⟨_,by conv=>lhs;whnf⟩
theorem eqb {x y:Bool}:(x==y)=true↔AV.str (qd8 x)=.str (qd8 y):=by cases x <;> cases y <;> simp <;> decide
noncomputable abbrev stL (σ:List AObj) (n:Nat) (A H B:List Nat):List AObj:=σ ++ [.lst (qak n A),.lst (qak n H),.lst (qa0 B)]
theorem qjr (n:Nat)(A:List Nat)(p r:Nat):qak n (qgk A p r)=(qak n A).take p ++ [.loc (eL n r)] ++ (qak n A).drop p:=by
  unfold qak qgk;rw[A0,A0,List.map_take,List.map_drop];rfl
section
variable (F:Fac W) {gl fd:Nat} {f:Nat->Int} {Ds:List (List Nat)} {q:Bool×Nat} {A H B:List Nat}
include F in
theorem qmx (D:DocS 7 f n σ)(hr:r<7)(hA:A.Pairwise fun a b=>qa6 7 f a<=qa6 7 f b)(hA7:∀x∈A,x<7)(hz:A.length<=7)(hY:Y σ.length):Calls W Y (k+3) fr (stL σ n A H B) (.glob (.ref A1)) [.loc σ.length,.loc (eL n r)] ["key"] [.glob (.ref A19)] .none (stL σ n (qgk A (qcw (pR (qa6 7 f) r) A) r) H B):=by
  have hn:(stL σ n A H B)[σ.length]?=some (.lst (qak n A)):=at0;have hzz:(qak n A).length<=Ai:=by rw[Ab,Ay];lia
  have hl:(qak n A).length=A.length:=Ab _;have D':DocS 7 f n (stL σ n A H B):=D.app;have hge:∀(j:Nat) (v:AV),(qak n A)[j]?=some v->∃x,A[j]?=some x/\v=.loc (eL n x)/\x<7:=fun j v h=>by
    rw[Aj] at h;obtain ⟨x,h1,h2⟩:=Option.map_eq_some_iff.mp h;exact ⟨x,h1,h2.symm,hA7 x (Aw h1)⟩
  have hpp:A.Pairwise (fun a b=>pR (qa6 7 f) r b=true->pR (qa6 7 f) r a=true):=hA.imp fun h q=>decide_eq_true (Af h (of_decide_eq_true q))
  have h:=qtu F (κ:=fun j=>(qa6 7 f (A.getD j 0):Nat)) (kx:=(qa6 7 f r:Nat)) (r:=qcw (pR (qa6 7 f) r) A) hn hY hzz (by rw[hl];exact qjh _ _) (fun j _ hj=>by
    rw[hl] at hj;have h1:=qdy hpp j _ (Ad hj);rw[Ae,Ad hj];show ((qa6 7 f r:Nat):Int)<(qa6 7 f A[j]:Nat)↔_;rw[decide_eq_true_eq] at h1
    grind) (d:=1) (key:=.glob (.ref A19)) (x:=.loc (eL n r)) (F.f19 .none).kept rfl (fun j v hv k fr Y=>by
    obtain ⟨x,h1,rfl,h3⟩:=hge j v hv;have:=qby F D' h3 k fr Y;rw[Ae,h1];exact this) (fun k fr Y=>qby F D' hr k fr Y) rfl k fr
  have e:=qda (σ:=σ) (τ:=[.lst (qak n A),.lst (qak n H),.lst (qa0 B)]) (n:=σ.length) (j:=0) (x:=.lst ((qak n A).take (qcw (pR (qa6 7 f) r) A) ++ [.loc (eL n r)] ++ (qak n A).drop (qcw (pR (qa6 7 f) r) A))) rfl;rw[<- qjr] at e h;exact Iap h rfl e
include F in
theorem qmw (D:DocS 7 f n σ)(hr:r<7)(hA:H.Pairwise fun a b=>qa6 7 f a<=qa6 7 f b)(hA7:∀x∈H,x<7)(hz:H.length<=7)(hY:Y (σ.length+1)):Calls W Y (k+3) fr (stL σ n A H B) (.glob (.ref A3)) [.loc (σ.length+1),.loc (eL n r)] ["key"] [.glob (.ref A19)] .none (stL σ n A (qgk H (qcw (pL (qa6 7 f) r) H) r) B):=by
  have hn:(stL σ n A H B)[σ.length+1]?=some (.lst (qak n H)):=by rw[qax (j:=1) rfl];rfl
  have hzz:(qak n H).length<=Ai:=by rw[Ab,Ay];lia
  have hl:(qak n H).length=H.length:=Ab _;have D':DocS 7 f n (stL σ n A H B):=D.app;have hge:∀(j:Nat) (v:AV),(qak n H)[j]?=some v->∃x,H[j]?=some x/\v=.loc (eL n x)/\x<7:=fun j v h=>by
    rw[Aj] at h;obtain ⟨x,h1,h2⟩:=Option.map_eq_some_iff.mp h;exact ⟨x,h1,h2.symm,hA7 x (Aw h1)⟩
  have hpp:H.Pairwise (fun a b=>pL (qa6 7 f) r b=true->pL (qa6 7 f) r a=true):=hA.imp fun h q=>decide_eq_true (An h (of_decide_eq_true q))
  have h:=quz F (κ:=fun j=>(qa6 7 f (H.getD j 0):Nat)) (kx:=(qa6 7 f r:Nat)) (r:=qcw (pL (qa6 7 f) r) H) hn hY hzz (by rw[hl];exact qjh _ _) (fun j _ hj=>by
    rw[hl] at hj;have h1:=qdy hpp j _ (Ad hj);rw[Ae,Ad hj];show ((qa6 7 f H[j]:Nat):Int)<(qa6 7 f r:Nat)↔_;rw[decide_eq_true_eq] at h1
    simp_all) (d:=1) (key:=.glob (.ref A19)) (x:=.loc (eL n r)) (F.f19 .none).kept rfl (fun j v hv k fr Y=>by
    obtain ⟨x,h1,rfl,h3⟩:=hge j v hv;have:=qby F D' h3 k fr Y;rw[Ae,h1];exact this) (fun k fr Y=>qby F D' hr k fr Y) rfl k fr
  have e:=qda (σ:=σ) (τ:=[.lst (qak n A),.lst (qak n H),.lst (qa0 B)]) (n:=σ.length+1) (j:=1) (x:=.lst ((qak n H).take (qcw (pL (qa6 7 f) r) H) ++ [.loc (eL n r)] ++ (qak n H).drop (qcw (pL (qa6 7 f) r) H))) rfl;rw[<- qjr] at e h;exact Iap h rfl e
include F in
theorem qp3 (hB:∀x∈B,r<x)(hz:B.length<=7)(hY:Y (σ.length+2)):Calls W Y (k+3) fr (stL σ n A H B) (.glob (.ref A3)) [.loc (σ.length+2),.int (r:Nat)] [] [] .none (stL σ n A H (r::B)):=by
  have hn:(stL σ n A H B)[σ.length+2]?=some (.lst (qa0 B)):=by rw[qax (j:=2) rfl];rfl
  have hl:(qa0 B).length=B.length:=Ab _;have h:=quy F (κ:=fun j=>((B.getD j 0:Nat):Int)) (kx:=(r:Nat)) (lo:=0) (r:=0) hn hY (by rw[hl,Ay];lia) (.inl ⟨rfl,rfl⟩) (Ak _) (Ak _) (AI _) (fun j _ hj=>by
    rw[hl] at hj;have:=hB _ (DP hj);rw[Ae,Ad hj];show ((B[j]:Nat):Int)<(r:Nat)↔j<0;lia) (fun j _ hj=>qjn (by rwa[hl] at hj)) (F.f3n2 _ _) (k+1) fr
  exact Iap h rfl (qda (j:=2) rfl)
end
end
section
theorem Idu {r:List Expr}(he:Tr C k fr m σ e true z'):Trs C k fr m σ .Or (e::r) true z':=Ibe (c:=true) he (fun h=>nomatch h) (fun _=>rfl)
section
variable (F:Fac W) {gl fd:Nat} {f g:Nat->Int} {Ds:List (List Nat)} {A H B:List Nat}
noncomputable abbrev dpS (ed:Nat->Nat) (B:List Nat) (r:Nat):List Nat:=if B.isEmpty||decide (ed r<B.headD 0) then r::B else B
include F in
theorem qt9 (D:DocS 7 f n σ)(hr:r<7)(hA:A.Pairwise fun a b=>qa6 7 f a<=qa6 7 f b)(hA7:∀x∈A,x<7)(hAz:A.length<=7)(hH:H.Pairwise fun a b=>qa6 7 f a<=qa6 7 f b)(hH7:∀x∈H,x<7)(hHz:H.length<=7)(hB:∀x∈B,r<x)(hBz:B.length<=7)(hY:∀j,Y (σ.length+j)){q:Bool×Nat}:
    Ex ⟨W,Y,nm20.1,cd⟩ (k+3) fr (inM n gl fd σ.length Ds n r q) (stL σ n A H B) (nth bo20.1 2) .next (inM n gl fd σ.length Ds n r q) (if q.1=true then stL σ n (qgk A (qcw (pR (qa6 7 f) r) A) r) (qgk H (qcw (pL (qa6 7 f) r) H) r) (dpS (qa6 7 f) B r) else stL σ n A H B):=by
  obtain ⟨gd,a⟩:=q;cases gd with
  | false=>
    rw[if_neg nofun];show Ex _ _ _ _ _ (.If _ (_::_) _ _) _ _ _;with_reducible exact .(Ia7 (c:=false) .(Iaa .(Tr.val .(Ia0 9) (Tv.bool)) rfl) (fun h=>nomatch h) (fun _=>.(Exs.nil)))
  | true=>
    rw[if_pos rfl];have hk1:=(F.f1k2 .none .none .none).kept;have hk3:=(F.f3k2 .none .none .none).kept;have c1:=qmx F (Y:=Y) (k:=k) (fr:=fr) (H:=H) (B:=B) D hr hA hA7 hAz (hY 0);have c2:=qmw F (Y:=Y) (k:=k) (fr:=fr) (A:=qgk A (qcw (pR (qa6 7 f) r) A) r) (B:=B) D hr hH hH7 hHz (hY 1);have c3:=qp3 F (Y:=Y) (k:=k) (fr:=fr) (σ:=σ) (n:=n) (A:=qgk A (qcw (pR (qa6 7 f) r) A) r) (H:=qgk H (qcw (pL (qa6 7 f) r) H) r) hB hBz (hY 2);generalize qgk A (qcw (pR (qa6 7 f) r) A) r=A' at c1 c2 c3 ⊢;generalize qgk H (qcw (pL (qa6 7 f) r) H) r=H' at c2 c3 ⊢;have D':DocS 7 f n (stL σ n A' H' B):=D.app;have ge:=D'.els r hr;have ga:=D'.att r hr;have hk:=qlz (qfw f r) r;have hn:(stL σ n A' H' B)[σ.length+2]?=some (.lst (qa0 B)):=by rw[qax (j:=2) rfl];rfl
    have hzb:(qa0 B).length<=Ai:=by rw[Ab,Ay];lia
    have hDb:D1 64 (.lst (qa0 B)):=D1.lst (d:=63) fun x _=>D1.int
    have hdv:Dv (stL σ n A' H' B) (.loc (σ.length+2)) (.lst (qa0 B)):=Dv.lv (Lv.loc hn) hDb.1 hDb.2;have hnil:decide (B=[])=true↔AV.lst (qa0 B)=.lst []:=by
      rw[decide_eq_true_iff];constructor
      . rintro rfl;rfl
      . intro h;injection h with h;exact E6.mp h
    cases B with
    | nil=>
      have hnil:true=true↔AV.lst (qa0 [])=.lst []:=⟨fun _=>rfl,fun _=>rfl⟩
      have e:dpS (qa6 7 f) [] r=[r]:=rfl;rw[e];show Ex _ _ _ _ _ (.If _ (_::_) _ _) _ _ _;with_reducible exact .(Ia7 (c:=true) .(Iaa .(Tr.val .(Ia0 9) (Tv.bool)) rfl) (fun _=>.(Exs.cons .(Ex.expr .(Ev.call .(Iac 15 F.g_insort_right) (hk1) (Evs.cons .(Ia0 5) .((Evs.cons .(Ia0 3) .(Evs.nil)))) (EvK.cons .(Iac 16 F.g_law_end) .(EvK.nil)) (c1))) .(Exs.cons .(Ex.expr .(Ev.call .(Iac 17 F.g_insort_left) (hk3) (Evs.cons .(Ia0 6) .((Evs.cons .(Ia0 3) .(Evs.nil)))) (EvK.cons .(Iac 16 F.g_law_end) .(EvK.nil)) (c2))) .(Exs.cons .(Ia7 (c:=true) .(Iaa .(Ibb .(Idu .(Ia3 .(Ia0 7) .(Ev.list Evs.nil) .(Ibo hdv (Dv.of D1.nil) hnil)))) rfl) (fun _=>.(Exs.cons .(Ex.expr .(Ev.call .(Iac 17 F.g_insort_left) (hk3) (Evs.cons .(Ia0 7) .((Evs.cons .(Ibg .(Iab .(Ia0 3) (by exact ge) Uu qao) .(Ia8) ga hk) .(Evs.nil)))) EvK.nil (c3))) .(Exs.nil))) (fun h=>nomatch h)) .(Exs.nil))))) (fun h=>nomatch h))
    | cons b B=>
      have hb0:∃j,CN 0 (qa0 (b::B)).length=some j/\(qa0 (b::B))[j]?=some (.int ((b:Nat):Int)):=qbc (j:=0) rfl rfl;by_cases hlt:qa6 7 f r<b
      . have hd:(decide ((b::B)=[])||decide (((qa6 7 f r:Nat):Int)<((b:Nat):Int)))=true:=by rw[decide_eq_true (CF.mpr hlt),Bool.or_true]
        have e:dpS (qa6 7 f) (b::B) r=r::b::B:=by unfold dpS;rw[if_pos];show (false||decide (qa6 7 f r<b))=true;rw[decide_eq_true hlt];rfl
        rw[e];show Ex _ _ _ _ _ (.If _ (_::_) _ _) _ _ _;with_reducible exact .(Ia7 (c:=true) .(Iaa .(Tr.val .(Ia0 9) (Tv.bool)) rfl) (fun _=>.(Exs.cons .(Ex.expr .(Ev.call .(Iac 15 F.g_insort_right) (hk1) (Evs.cons .(Ia0 5) .((Evs.cons .(Ia0 3) .(Evs.nil)))) (EvK.cons .(Iac 16 F.g_law_end) .(EvK.nil)) (c1))) .(Exs.cons .(Ex.expr .(Ev.call .(Iac 17 F.g_insort_left) (hk3) (Evs.cons .(Ia0 6) .((Evs.cons .(Ia0 3) .(Evs.nil)))) (EvK.cons .(Iac 16 F.g_law_end) .(EvK.nil)) (c2))) .(Exs.cons .(Ia7 (c:=true) .(Iaa .(Ibb .(Ibe .(Ia3 .(Ia0 7) .(Ev.list Evs.nil) (Ibo hdv (Dv.of D1.nil) hnil)) (fun _=>.(Ibj .(Ia3 .(Ia9 .(Ia0 7) .(Ia1) (by exact Lv.loc hn) (by exact hb0) (by exact hzb)) .(Iab .(Ia0 3) (by exact ge) Uu qdt) .(Icf)))) (fun _=>rfl))) hd) (fun _=>.(Exs.cons .(Ex.expr .(Ev.call .(Iac 17 F.g_insort_left) (hk3) (Evs.cons .(Ia0 7) .((Evs.cons .(Ibg .(Iab .(Ia0 3) (by exact ge) Uu qao) .(Ia8) ga hk) .(Evs.nil)))) EvK.nil (c3))) .(Exs.nil))) (fun h=>nomatch h)) .(Exs.nil))))) (fun h=>nomatch h))
      . have hd:(decide ((b::B)=[])||decide (((qa6 7 f r:Nat):Int)<((b:Nat):Int)))=false:=by rw[decide_eq_false fun q=>hlt (CF.mp q),Bool.or_false];exact decide_eq_false nofun
        have e:dpS (qa6 7 f) (b::B) r=b::B:=by unfold dpS;rw[if_neg];show ¬(false||decide (qa6 7 f r<b))=true;rw[decide_eq_false hlt];exact nofun
        rw[e];show Ex _ _ _ _ _ (.If _ (_::_) _ _) _ _ _;with_reducible exact .(Ia7 (c:=true) .(Iaa .(Tr.val .(Ia0 9) (Tv.bool)) rfl) (fun _=>.(Exs.cons .(Ex.expr .(Ev.call .(Iac 15 F.g_insort_right) (hk1) (Evs.cons .(Ia0 5) .((Evs.cons .(Ia0 3) .(Evs.nil)))) (EvK.cons .(Iac 16 F.g_law_end) .(EvK.nil)) (c1))) .(Exs.cons .(Ex.expr .(Ev.call .(Iac 17 F.g_insort_left) (hk3) (Evs.cons .(Ia0 6) .((Evs.cons .(Ia0 3) .(Evs.nil)))) (EvK.cons .(Iac 16 F.g_law_end) .(EvK.nil)) (c2))) .(Exs.cons .(Ia7 (c:=false) .(Iaa .(Ibb .(Ibe .(Ia3 .(Ia0 7) .(Ev.list Evs.nil) (Ibo hdv (Dv.of D1.nil) hnil)) (fun _=>.(Ibj .(Ia3 .(Ia9 .(Ia0 7) .(Ia1) (by exact Lv.loc hn) (by exact hb0) (by exact hzb)) .(Iab .(Ia0 3) (by exact ge) Uu qdt) .(Icf)))) (fun _=>rfl))) hd) (fun h=>nomatch h) (fun _=>.(Exs.nil))) .(Exs.nil))))) (fun h=>nomatch h))
include F in
theorem qpe (D:DocS 7 f n σ)(hg:σ[gl]?=some (elX pn 4 g kk))(hr:r<7)(hDs:∀I∈Ds,I.Pairwise (· < ·)/\(∀x∈I,x<7)/\I.length<=1000)(hA:A.Pairwise fun a b=>qa6 7 f a<=qa6 7 f b)(hA7:∀x∈A,x<7)(hAz:A.length<=7)(hH:H.Pairwise fun a b=>qa6 7 f a<=qa6 7 f b)(hH7:∀x∈H,x<7)(hHz:H.length<=7)(hB:∀x∈B,r<x)(hBz:B.length<=7)(hY:∀j,Y (σ.length+j)):
    Exs ⟨W,Y,nm20.1,cd⟩ (k+3) fr ((qpg n gl fd σ.length Ds).set 3 (some (.loc (eL n r)))) (stL σ n A H B) bo20.1 .next (qpg n gl fd σ.length Ds) (if qir (qa6 7 f) (qb8 g) (qb8 f) Ds kk r=true then stL σ n (qgk A (qcw (pR (qa6 7 f) r) A) r) (qgk H (qcw (pL (qa6 7 f) r) H) r) (dpS (qa6 7 f) B r) else stL σ n A H B):=by
  have D':DocS 7 f n (stL σ n A H B):=D.app;have ge:=D'.els r hr;have ga:=D'.att r hr;have hg':(stL σ n A H B)[gl]?=some (elX pn 4 g kk):=qac hg;have hk:=qlz (qfw f r) r;have hD1:D1 64 (.str (qd8 (qb8 f r))):=D1.str (qh5 _);have hD2:D1 64 (.str (qd8 (qb8 g kk))):=D1.str (qh5 _);have s0:Ex ⟨W,Y,nm20.1,cd⟩ (k+3) fr ((qpg n gl fd σ.length Ds).set 3 (some (.loc (eL n r)))) (stL σ n A H B) (nth bo20.1 0) .next ((((qpg n gl fd σ.length Ds).set 3 (some (.loc (eL n r)))).set 8 (some (.int (r:Nat)))).set 9 (some (.bool (qb8 f r==qb8 g kk)))) (stL σ n A H B):=by
    show Ex _ _ _ _ _ (.Assign _ _ _) _ _ _;with_reducible exact .(Ic8 (i:=8) (j:=9) .(Ev.tuple (Evs.cons .(Ibg .(Iab .(Ia0 3) (by exact ge) Uu qao) .(Ia8) ga hk) .((Evs.cons .(Iav .(Iab .(Ia0 3) (by exact ge) Uu qdr) .(Iab .(Ia0 1) (by exact hg') Uu qdr) (Ibo (Dv.of hD1) (Dv.of hD2) eqb)) .(Evs.nil))))) Uu Uu (by decide) Uu Uu)
  have e0:((((qpg n gl fd σ.length Ds).set 3 (some (.loc (eL n r)))).set 8 (some (.int (r:Nat)))).set 9 (some (.bool (qb8 f r==qb8 g kk))))=inM n gl fd σ.length Ds n r (qb8 f r==qb8 g kk,r):=rfl;rw[e0] at s0;have hlp:=qrp F (Y:=Y) (cd:=cd) (k:=k+2) (fr:=fr) (gl:=gl) (fd:=fd) (L:=σ.length) D' hr Ds [] (qb8 f r==qb8 g kk,r) rfl hDs;have s1:Ex ⟨W,Y,nm20.1,cd⟩ (k+3) fr (inM n gl fd σ.length Ds n r (qb8 f r==qb8 g kk,r)) (stL σ n A H B) (nth bo20.1 1) .next (inM n gl fd σ.length Ds n r (gr (qa6 7 f) (qa6 7 f r) Ds (qb8 f r==qb8 g kk,r))) (stL σ n A H B):=by
    show Ex _ _ _ _ _ (.For _ _ _ _ _) _ _ _;with_reducible exact .(Ib3 .(ItE.list .(Ia0 4) .(Lv.fz)) (by with_unfolding_all exact ForC.pre hlp (by exact Weak.refl)))
  have s2:=qt9 F (Y:=Y) (cd:=cd) (k:=k) (fr:=fr) (gl:=gl) (fd:=fd) (Ds:=Ds) (q:=gr (qa6 7 f) (qa6 7 f r) Ds (qb8 f r==qb8 g kk,r)) D hr hA hA7 hAz hH hH7 hHz hB hBz hY;have hb:bo20.1=[nth bo20.1 0,nth bo20.1 1,nth bo20.1 2]:=by kernel_rfl
  rw[hb];refine Exs.post (m2:=inM n gl fd σ.length Ds n r (gr (qa6 7 f) (qa6 7 f r) Ds (qb8 f r==qb8 g kk,r))) ?_ (by with_unfolding_all exact Ia6 261896);with_reducible exact Exs.cons s0 (Exs.cons s1 (Exs.cons s2 Exs.nil))
end
end
section
section
variable (f g:Nat->Int)
noncomputable abbrev eD (f:Nat->Int):Nat->Nat:=qa6 7 f
noncomputable abbrev eP (g:Nat->Int):Nat->Nat:=qa6 4 g
noncomputable abbrev dkF (fu k:Nat):List Nat:=DkF 4 7 (eP g) (eD f) (qb8 g) (qb8 f) fu k
noncomputable def dk (k:Nat):List Nat:=dkF f g 4 k
noncomputable def qbs (g:Nat->Int) (k:Nat):List Nat:=qbo (eP g) (eP g k) 4 (k+1)
noncomputable def qdp (k:Nat):Nat->Bool:=qir (eD f) (qb8 g) (qb8 f) ((qbs g k).map (dk f g)) k
noncomputable def afK (k j:Nat):List Nat:=afF 7 (pR (eD f)) (qdp f g k) j
noncomputable def ahK (k j:Nat):List Nat:=afF 7 (pL (eD f)) (qdp f g k) j
noncomputable def dpK (k j:Nat):List Nat:=dpF 7 (eD f) (qdp f g k) j
noncomputable abbrev foV (k:Nat):AV:=.lst [.lst (qa0 (afK f g k 7)),.lst (qa0 (ahK f g k 7)),.lst (qa0 (dk f g k))]
noncomputable abbrev qg2 (ks:List Nat):List Int:=ks.map fun k=>((k:Nat):Int)
noncomputable abbrev foO (ks:List Nat):AObj:=.dint (qg2 ks) (ks.map (foV f g))
theorem qv4 (h:k<4):(dk f g k).Pairwise (· < ·)/\(∀x∈dk f g k,x<7)/\(dk f g k).length<=1000:=by
  obtain ⟨h1,h2⟩:=qov (tp:=qb8 g) (td:=qb8 f) (qf1 4 g) (qf1 7 f) 4 k h (by simp);refine ⟨h1,fun x hx=>((h2 x).mp hx).2.1,?_⟩;exact Af (qho 7 _ _ 7) (by decide)
theorem qu5 (h:k<4):dk f g k=dpK f g k 7:=by
  have T:=qf1 4 g;unfold dk dpK qdp;show DkF 4 7 _ _ _ _ (3+1) k=_;unfold DkF;congr 2
  refine AN fun i hi=>?_
  have:=qcb T.ge _ _ _ hi;exact qqb T.ge T.top 3 4 i (An this.2 (T.top k h)) (by lia) (by simp)
theorem qhg (h:k<4):∀c∈qbs g k,k<c/\c<=eP g k/\c<4:=fun c hc=>by
  have T:=qf1 4 g;have:=qcb T.ge _ _ _ hc;exact ⟨this.1,this.2,An this.2 (T.top k h)⟩
end
noncomputable abbrev stK (σ:List AObj) (n:Nat) (f g:Nat->Int) (k j:Nat):List AObj:=stL σ n (afK f g k j) (ahK f g k j) (dpK f g k j)
section
variable (F:Fac W) {gl fd:Nat} {f g:Nat->Int}
include F in
theorem qpf (D:DocS 7 f n σ)(hg:σ[gl]?=some (elX pn 4 g kk))(hk4:kk<4)(hY:∀j,Y (σ.length+j)):∀(m j:Nat),j+m=7->
    ForC ⟨W,Y,nm20.1,cd⟩ (k+3) fr ta20.1 bo20.1 [] (.seq (.lst (qak n (Ac 7)).reverse) (qak n (Ac 7)).reverse) j (qpg n gl fd σ.length ((qbs g kk).map (dk f g))) (stK σ n f g kk j) .next (qpg n gl fd σ.length ((qbs g kk).map (dk f g))) (stK σ n f g kk 7):=by
  intro m;induction m with
  | zero=>
    intro j hj;obtain rfl:j=7:=hj;exact ForC.done Lv.fz rfl Exs.nil
  | succ m ih=>
    intro j hj;have hj7:j<7:=by lia
    have hr:7 - 1 - j<7:=by simp +arith
    have hDs:∀I∈(qbs g kk).map (dk f g),I.Pairwise (· < ·)/\(∀x∈I,x<7)/\I.length<=1000:=fun I hI=>by
      obtain ⟨c,hc,rfl⟩:=Br.mp hI;exact qv4 f g (qhg g hk4 c hc).2.2
    have hm:=fun p=>qgh (p:=p) (good:=qdp f g kk) j (Av hj7)
    have hdp:=qqq (qf1 7 f) (good:=qdp f g kk) j (Av hj7);have h:=qpe F (Y:=Y) (cd:=cd) (k:=k) (fr:=fr) (fd:=fd) (A:=afK f g kk j) (H:=ahK f g kk j) (B:=dpK f g kk j) D hg hr hDs (qnn (qfa 7 (eD f) (qdp f g kk) (Av hj7))) (fun x hx=>(((hm _).2 x).mp hx).2.1) (Af (qe4 _ _ _ _) (Av hj7)) (qno (qf9 7 (eD f) (qdp f g kk) (Av hj7))) (fun x hx=>(((hm _).2 x).mp hx).2.1) (Af (qe4 _ _ _ _) (Av hj7)) (fun x hx=>by have:=((hdp.2 x).mp hx).1;grind) (Af (qho _ _ _ _) (Av hj7)) hY;have e:(if qir (qa6 7 f) (qb8 g) (qb8 f) ((qbs g kk).map (dk f g)) kk (7 - 1 - j)=true then stL σ n (qgk (afK f g kk j) (qcw (pR (qa6 7 f) (7 - 1 - j)) (afK f g kk j)) (7 - 1 - j)) (qgk (ahK f g kk j) (qcw (pL (qa6 7 f) (7 - 1 - j)) (ahK f g kk j)) (7 - 1 - j)) (dpS (qa6 7 f) (dpK f g kk j) (7 - 1 - j)) else stL σ n (afK f g kk j) (ahK f g kk j) (dpK f g kk j))=stK σ n f g kk (j+1):=by
      have e1:qir (qa6 7 f) (qb8 g) (qb8 f) ((qbs g kk).map (dk f g)) kk (7 - 1 - j)=qdp f g kk (7 - 1 - j):=rfl;rw[e1];unfold stK;unfold afK ahK dpK;rw[afF,afF,dpF];cases qdp f g kk (7 - 1 - j) with
      | true=>rfl
      | false=>rfl
    rw[e] at h;refine ForC.next (m1:=(qpg n gl fd σ.length ((qbs g kk).map (dk f g))).set 3 (some (.loc (eL n (7 - 1 - j))))) (z1:=stK σ n f g kk j) (v:=.loc (eL n (7 - 1 - j))) Lv.fz rfl (qmt hj7) nofun ?_ h (ih (j+1) (by lia));show As _ _ _ _ _ (.Name _ _) _ _ _;exact .(Ia4 3)
end
end
section
noncomputable def lc20:PSigma (fun l=>(qs4 (qkf (nth bd20.1 0)) 0)=l):=⟨_,by conv=>lhs;whnf⟩
theorem qik (hep:∀i,i<=ep i):∀m j,(qbo ep K m j).Pairwise fun a b=>ep a<b
  | 0,_=>.nil
  | m+1,j=>by
    unfold qbo;split
    . exact A6.mpr ⟨fun i hi=>(qcb hep _ _ _ hi).1,qik hep m _⟩
    . exact .nil
noncomputable abbrev qba (g:Nat->Int) (fu k:Nat):List Nat:=qlk (eP g) 4 fu k
theorem qnr {g:Nat->Int}(h:k<4):qfd 4 g k=qbs g k:=qjs h
theorem qru (f g:Nat->Int)(ks:List Nat)(x:Nat):foO f g (ks ++ [x])=.dint (qg2 ks ++ [((x:Nat):Int)]) (ks.map (foV f g) ++ [foV f g x]):=by
  unfold foO qg2;rw[A0,A0];rfl
theorem qnx {ks:List Nat}{x:Nat}(h:x∉ks):((x:Nat):Int)∉qg2 ks:=fun q=>by
  obtain ⟨y,h1,h2⟩:=Br.mp q;exact h (Int.ofNat.inj h2 ▸ h1)
section
variable (F:Fac W) {fd fu:Nat} {f g:Nat->Int} {ks:List Nat}
include F in
theorem qnl (D:DocS 7 f n σ)(P:DocS 4 g pn σ)(hfd:σ[fd]?=some (foO f g ks))(hfn:fd<n)(hfp:fd<pn)(hk4:kk<4)(hrec:∀c j,(qbs g kk)[j]?=some c->Calls W Y K fr (σ.set fd (foO f g (ks ++ ((qbs g kk).take j).flatMap (qba g fu)))) (.glob (.ref A20)) [.loc n,.loc (eL pn c),.loc fd] [] [] (.lst (qa0 (dk f g c))) (σ.set fd (foO f g (ks ++ ((qbs g kk).take (j+1)).flatMap (qba g fu))))):
    Ev ⟨W,Y,nm20.1,cd⟩ K fr [some (.loc n),some (.loc (eL pn kk)),some (.loc fd),none,none,none,none,none,none,none,none,none,none,none,none,none,none,none] σ lc20.1 (.lst (qdh ((qbs g kk).map (dk f g)))) (σ.set fd (foO f g (ks ++ (qbs g kk).flatMap (qba g fu)))):=by
  have hi:σ[pn+7+5*kk+3]?=some (.lst (qak pn (qbs g kk))):=qnr hk4 ▸ P.inn kk hk4;have hg:=P.els kk hk4;have hS:∀X:AObj,(σ.set fd X)[pn+7+5*kk+3]?=some (.lst (qak pn (qbs g kk))):=fun X=>(qaw (by lia)).trans hi
  have h0:σ.set fd (foO f g (ks ++ ((qbs g kk).take 0).flatMap (qba g fu)))=σ:=by
    rw[List.take_zero,List.flatMap_nil,Bf];exact qh7 hfd
  have hlen:(qak pn (qbs g kk)).length=(qbs g kk).length:=Ab _;have hkept:=(F.f20 .none .none .none rfl rfl rfl).kept;show Ev _ _ _ _ _ (.ListComp _ (⟨_,_,_,0⟩::_) _ _) _ _;have e1:(Ac (qak pn (qbs g kk)).length).map (fun j=>AV.lst (qa0 (dk f g ((qbs g kk).getD j 0))))=qdh ((qbs g kk).map (dk f g)):=by
    rw[hlen];apply Fy;intro j;rw[Aj,Aj,Aj];by_cases hj:j<(qbs g kk).length
    . rw[Ba hj,Ad hj];show some (AV.lst (qa0 (dk f g ((qbs g kk).getD j 0))))=_;rw[Ae,Ad hj];rfl
    . rw[BK (by rw[AM];simp_all),BK (Be.mp hj)];rfl
  have e2:(qbs g kk).take (qak pn (qbs g kk)).length=qbs g kk:=by rw[hlen,FY]
  refine Iak (mc:=[none,none,none,some (.loc fd),some (.loc n)]) (z1:=σ) (ai:=.seq (.loc (pn+7+5*kk+3)) (qak pn (qbs g kk))) (m0:=[none,none,none,some (.loc fd),some (.loc n)]) ?_ (CompIn.of [none,none,none,some 2,some 0] (by kernel_rfl) (by kernel_rfl)) ?_
  . exact .(ItE.list .(Iab .(Ia0 1) (by exact hg) Uu qc0) (Lv.loc hi))
  . refine Id5 (ai:=.seq (.loc (pn+7+5*kk+3)) (qak pn (qbs g kk))) rfl rfl (qak pn (qbs g kk)) (fun j=>σ.set fd (foO f g (ks ++ ((qbs g kk).take j).flatMap (qba g fu)))) (fun j=>AV.lst (qa0 (dk f g ((qbs g kk).getD j 0)))) (fun j=>[none,none,none,some (.loc fd),some (.loc n)].set 1 (some (.loc (eL pn ((qbs g kk).getD j 0))))) rfl (fun j=>Lv.loc (hS _)) rfl (by with_unfolding_all exact np) (fun j v hv=>?_) (fun j v hv=>?_) (fun j _=>qa3 (fun _=>rfl) _) (fun j=>Weak.set rfl) ?_ h0 (by rw[e2]) e1
    . rw[Aj] at hv;obtain ⟨c,h1,rfl⟩:=Option.map_eq_some_iff.mp hv;have e:(qbs g kk).getD j 0=c:=by rw[Ae,h1];rfl
      rw[e];show As _ _ _ _ _ (.Name _ _) _ _ _;exact .(Ia4 1)
    . rw[Aj] at hv;obtain ⟨c,h1,rfl⟩:=Option.map_eq_some_iff.mp hv;have e:(qbs g kk).getD j 0=c:=by rw[Ae,h1];rfl
      simp only[e];have hc:=hrec c j h1;show Ev _ _ _ _ _ (.Call (.Name _ _) _ _ _) _ _;exact .(Ev.call .(Iac 2 F.g_law_lies) (hkept) (Evs.cons .(Iad 4) .((Evs.cons .(Ia0 1) .((Evs.cons .(Iad 3) .(Evs.nil)))))) EvK.nil (hc))
    . rw[hlen];have T:=qf1 4 g;have:∀m i,(qbo (eP g) (eP g kk) m i).length<=m:=by
        intro m;induction m with
        | zero=>intro i;exact Ak _
        | succ m ih=>
          intro i;unfold qbo;split
          . exact CL (ih _)
          . exact AI _
      exact Af (this 4 (kk+1)) (by decide)
end
end
section
theorem qg6:∀{l l':List AV},qel b σ (l++l')=qel b σ l++qel b σ l'
  | [],l'=>rfl
  | a::l,l'=>by
    show frz b σ a::qel b σ (l++l')=_;rw[qg6];rfl
theorem qrt (hb:σ.length=b)(hj:τ[j]?=some (.lst l))(hc:qad b l=true):frz b (σ++τ) (.loc (b+j))=.lst l:=by
  show (if b+j<b then AV.loc (b+j) else match (σ++τ)[b+j]? with | some (.lst l)=>if qad b l then .lst l else .any | _=>.any)=_;rw[if_neg (by simp),qax (by rw[hb]),hj];show (if qad b l=true then AV.lst l else .any)=_;rw[if_pos hc]
theorem qbi (l:List Nat):qad b (qa0 l)=true:=qc8 fun v hv=>by
  refine qa5 (Br.mp hv) ?_;intro i _ eq_0_2;subst eq_0_2;rfl
theorem qhl {G:Nat->List Nat}{B:Nat}(h:∀x∈L,(G x).length<=B):(L.flatMap G).length<=L.length*B:=by
  induction L with
  | nil=>exact AI _
  | cons a L ih=>
    rw[B7,Ao,BY,Nat.succ_mul];have h1:=h a Am;have h2:=ih fun x hx=>h x (Az _ hx)
    lia
theorem qhh (g:Nat->Int)(k:Nat):(qbs g k).length<=4:=by
  have:∀m i,(qbo (eP g) (eP g k) m i).length<=m:=by
    intro m;induction m with
    | zero=>intro i;exact Ak _
    | succ m ih=>
      intro i;unfold qbo;split
      . exact CL (ih _)
      . exact AI _
  exact this 4 (k+1)
theorem qfn (g:Nat->Int):∀fu k,(qba g fu k).length<=5 ^ fu
  | 0,_=>AI _
  | fu+1,k=>by
    show ((qbs g k).flatMap (qba g fu) ++ [k]).length<=_;have h:=qhl (L:=qbs g k) (G:=qba g fu) (B:=5 ^ fu) fun x _=>qfn g fu x
    have h1:=ER (5 ^ fu) (qhh g k);have h2:0<5 ^ fu:=Gr (by decide);rw[Ao,BJ,Dr]
    grind
section
variable (F:Fac W) {fd:Nat} {f g:Nat->Int}
include F in
theorem qlt (hfn:fd<n)(hfp:fd<pn):∀(fu kk:Nat) (Y:Nat->Prop) (k:Nat) (fr:List Env) (σ:List AObj) (ks:List Nat),kk<4->4<=kk+fu->DocS 7 f n σ->DocS 4 g pn σ->σ[fd]?=some (foO f g ks)->Y fd->(∀x∈ks,x<kk\/eP g kk<x)->ks.length+5 ^ fu<=10000->
    Calls W Y (k+(fu+3)) fr σ (.glob (.ref A20)) [.loc n,.loc (eL pn kk),.loc fd] [] [] (.lst (qa0 (dk f g kk))) (σ.set fd (foO f g (ks ++ qba g fu kk))):=by
  intro fu;induction fu with
  | zero=>intro kk Y k fr σ ks h1 h2;omega
  | succ fu ih=>
    intro kk Y k fr σ ks hk4 hf4 D P hfd hYf hks hkz;have T:=qf1 4 g;have hfl:=qbn hfd;rw[show k+(fu+1+3)=k+(fu+3)+1 by lia];obtain ⟨ks1,hks1⟩:∃ks1,ks1=ks ++ (qbs g kk).flatMap (qba g fu):=⟨_,rfl⟩
    obtain ⟨σ1,hz1⟩:∃σ1,σ1=σ.set fd (foO f g ks1):=⟨_,rfl⟩
    have hl1:σ1.length=σ.length:=by rw[hz1,A5]
    have D1':DocS 7 f n σ1:=hz1 ▸ D.set (.inl hfn);have P1:DocS 4 g pn σ1:=hz1 ▸ P.set (.inl hfp);have hpost:∀x∈(qbs g kk).flatMap (qba g fu),kk<x/\x<=eP g kk:=fun x hx=>by
      obtain ⟨c,hc,hx⟩:=ED.mp hx;obtain ⟨c1,c2,c3⟩:=qhg g hk4 c hc;have:=qkq T fu c x c3 hx;exact ⟨Ah c1 this.1,Af this.2 (T.nest c1 c2 c3)⟩
    have hni:kk∉ks1:=fun q=>by
      rw[hks1] at q;rcases BW.mp q with q | q
      . rcases hks kk q with w | w
        . exact BV _ w
        . exact absurd w (Be.mpr (T.ge kk))
      . exact BV _ (hpost kk q).1
    have hrec:∀(Y':Nat->Prop) (env:List Env),Y' fd->∀c j,(qbs g kk)[j]?=some c->Calls W Y' (k+(fu+3)) env (σ.set fd (foO f g (ks ++ ((qbs g kk).take j).flatMap (qba g fu)))) (.glob (.ref A20)) [.loc n,.loc (eL pn c),.loc fd] [] [] (.lst (qa0 (dk f g c))) (σ.set fd (foO f g (ks ++ ((qbs g kk).take (j+1)).flatMap (qba g fu)))):=fun Y' env hY' c j hj=>by
      obtain ⟨c1,c2,c3⟩:=qhg g hk4 c (Aw hj);have hjl:=(Ap.mp hj).1;have hcond:∀x∈ks ++ ((qbs g kk).take j).flatMap (qba g fu),x<c\/eP g c<x:=fun x hx=>by
        rcases BW.mp hx with hx | hx
        . rcases hks x hx with q | q
          . exact .inl (Bq q c1)
          . exact .inr (An (T.nest c1 c2 c3) q)
        . obtain ⟨d,hd,hx⟩:=ED.mp hx;obtain ⟨i,hi⟩:=DI hd;rw[Fe] at hi;by_cases hij:i<j
          . rw[if_pos hij] at hi;have hdk:=qhg g hk4 d (Aw hi);have h1:=qkq T fu d x hdk.2.2 hx;have hgap:=Bo.mp (qik (K:=eP g kk) T.ge 4 (kk+1)) i j (Ap.mp hi).1 hjl hij;have e1:=(Ap.mp hi).2;have e2:=(Ap.mp hj).2;rw[show (qbo (qa6 4 g) (eP g kk) 4 (kk+1))[i]'(Ap.mp hi).1=d from e1,show (qbo (qa6 4 g) (eP g kk) 4 (kk+1))[j]'hjl=c from e2] at hgap;exact .inl (An h1.2 hgap)
          . rw[if_neg hij] at hi;cases hi
      have hlen:(ks ++ ((qbs g kk).take j).flatMap (qba g fu)).length+5 ^ fu<=10000:=by
        have h:=qhl (L:=(qbs g kk).take j) (G:=qba g fu) (B:=5 ^ fu) fun x _=>qfn g fu x
        have h1:((qbs g kk).take j).length<=3:=by rw[Df];have:=qhh g kk;grind
        have h2:=ER (5 ^ fu) h1;rw[Dr] at hkz;rw[Ao];lia
      have:=ih c Y' k env (σ.set fd (foO f g (ks ++ ((qbs g kk).take j).flatMap (qba g fu)))) (ks ++ ((qbs g kk).take j).flatMap (qba g fu)) c3 (by lia) (D.set (.inl hfn)) (P.set (.inl hfp)) (qbv hfd) hY' hcond hlen;rw[Db,AX] at this;have e:((qbs g kk).take j).flatMap (qba g fu) ++ qba g fu c=((qbs g kk).take (j+1)).flatMap (qba g fu):=by
        rw[List.take_succ,hj,List.flatMap_append];simp
      rw[e] at this;exact this
    have hkz1:ks1.length<=Ai:=by
      have h:=qhl (L:=qbs g kk) (G:=qba g fu) (B:=5 ^ fu) fun x _=>qfn g fu x
      have h2:=ER (5 ^ fu) (qhh g kk);rw[Dr] at hkz;rw[hks1,Ao,Ay];lia
    have hks2:ks ++ qba g (fu+1) kk=ks1 ++ [kk]:=by
      rw[hks1,AX];rfl
    rw[hks2,qu5 f g hk4];obtain ⟨N3,hN3⟩:∃N3:List AObj,N3=[.lst (qak n (afK f g kk 7)),.lst (qak n (ahK f g kk 7)),.lst (qa0 (dpK f g kk 7))]:=⟨_,rfl⟩
    obtain ⟨V3,hV3⟩:∃V3:AV,V3=.lst [.lst (qa0 (afK f g kk 7)),.lst (qa0 (ahK f g kk 7)),.loc (σ.length+2)]:=⟨_,rfl⟩
    obtain ⟨X3,hX3⟩:∃X3:AObj,X3=.dint (qg2 ks1 ++ [((kk:Nat):Int)]) (ks1.map (foV f g) ++ [V3]):=⟨_,rfl⟩
    refine FnB.calls (F.f20 (.loc n) (.loc (eL pn kk)) (.loc fd) rfl rfl rfl) σ.length (z'':=σ.set fd X3 ++ N3) (m':=[]) (fl:=.ret (.loc (σ.length+2))) (fun cd env _=>?_) (Ak _) (by rw[Ao,A5];simp) (fun c1 _ _ _=>?_)
    . have hY':(fun m=>Y m\/σ.length<=m) fd:=.inl hYf;have hcomp:=qnl F (Y:=fun m=>Y m\/σ.length<=m) (cd:=cd) (K:=k+(fu+3)) (fr:=env::fr) D P hfd hfn hfp hk4 (hrec _ _ hY');rw[<- hks1,<- hz1] at hcomp;have hcomp:Ev _ _ _ _ _ (.ListComp (.Call (.Name _ _) _ _ _) (⟨.Name _ _,.Attribute (.Name _ _) _ _,_,0⟩::_) _ _) _ _:=hcomp;have z1:σ1 ++ [AObj.lst []] ++ [AObj.lst []] ++ [AObj.lst []]=stK σ1 n f g kk 0:=by rw[AX,AX];rfl
      have v1:AV.tup [.lst (qdh ((qbs g kk).map (dk f g))),.loc σ1.length,.loc (σ1 ++ [AObj.lst []]).length,.loc (σ1 ++ [AObj.lst []] ++ [AObj.lst []]).length]=.tup [.lst (qdh ((qbs g kk).map (dk f g))),.loc σ1.length,.loc (σ1.length+1),.loc (σ1.length+2)]:=by simp
      have hloop:=qpf F (Y:=fun m=>Y m\/σ.length<=m) (cd:=cd) (k:=k+fu) (fr:=env::fr) (fd:=fd) D1' (P1.els kk hk4) hk4 (fun j=>.inr (by simp_all)) 7 0 rfl;have hpd:plain (.lst (qdh ((qbs g kk).map (dk f g))))=true:=qa3 (fun D=>qa3 (fun _=>rfl) D) _;have hrow:(stK σ1 n f g kk 0)[n]?=some (.lst (qak n (Ac 7))):=(D1'.app (τ:=[.lst (qak n (afK f g kk 0)),.lst (qak n (ahK f g kk 0)),.lst (qa0 (dpK f g kk 0))])).row;have hrv:AV.lst (qbq (qak n (Ac 7)) none none (some (-1)))=.lst (qak n (Ac 7)).reverse:=congrArg AV.lst (qmu (.inl rfl));have hzr:(qak n (Ac 7)).length<=Ai:=by exact (by decide:7<=Ai)
      have D7:DocS 7 f n (stK σ1 n f g kk 7):=D1'.app;have P7:DocS 4 g pn (stK σ1 n f g kk 7):=P1.app;have haf:(stK σ1 n f g kk 7)[σ1.length]?=some (.lst (qak n (afK f g kk 7))):=at0;have hah:(stK σ1 n f g kk 7)[σ1.length+1]?=some (.lst (qak n (ahK f g kk 7))):=by rw[qax (j:=1) rfl];rfl
      have hm:=fun p=>qgh (p:=p) (good:=qdp f g kk) 7 (Ak _)
      have h7a:∀x∈afK f g kk 7,x<7:=fun x hx=>(((hm _).2 x).mp hx).2.1
      have h7h:∀x∈ahK f g kk 7,x<7:=fun x hx=>(((hm _).2 x).mp hx).2.1
      have hza:(afK f g kk 7).length<=2 ^ 20:=Af (qe4 _ _ _ _) (by decide);have hzh:(ahK f g kk 7).length<=2 ^ 20:=Af (qe4 _ _ _ _) (by decide);have hg7:=P7.els kk hk4;have ha7:=P7.att kk hk4;have hk7:=qlz (qfw g kk) kk;have hk:=fun x:Nat=>qlz (qfw f x) x
      have hf1:σ1[fd]?=some (foO f g ks1):=hz1 ▸ qbv hfd;have hb2:(stK σ1 n f g kk 7)[fd]?=some (foO f g ks1):=qac hf1;have hpv:plain V3=true:=by
        rw[hV3];show (plains (qa0 _)&&(plains (qa0 _)&&(true&&true)))=true;rw[show plains (qa0 (afK f g kk 7))=true from qae (fun _=>rfl) _,show plains (qa0 (ahK f g kk 7))=true from qae (fun _=>rfl) _];rfl
      have e3:(stK σ1 n f g kk 7).set fd (.dint (qfm (qg2 ks1) (ks1.map (foV f g)) ((kk:Nat):Int) V3).1 (qfm (qg2 ks1) (ks1.map (foV f g)) ((kk:Nat):Int) V3).2)=σ.set fd X3 ++ N3:=by
        rw[qfm,if_neg (qnx hni),hX3,hN3];show (stL σ1 n _ _ _).set fd _=_;rw[set_app (qbn hf1),hz1,Db]
      have hzk:(qg2 ks1).length<=Ai:=by rw[Ab];exact hkz1
      have ev3:AV.lst [.lst ((afK f g kk 7).map fun x:Nat=>AV.int ((x:Nat):Int)),.lst ((ahK f g kk 7).map fun x:Nat=>AV.int ((x:Nat):Int)),.loc (σ1.length+2)]=V3:=by rw[hV3,hl1]
      rw[show AV.loc (σ.length+2)=.loc (σ1.length+2) by rw[hl1]];with_reducible refine Exs.f (Iae (m2:=qpg n (eL pn kk) fd σ1.length ((qbs g kk).map (dk f g))) ?_)
      show Exs _ _ _ _ _ (_::_) _ _ _;with_reducible exact .(Exs.cons .(Ia5 .(Ibu .(Ev.tuple (Evs.cons .(hcomp) .((Evs.cons .(Ian Evs.nil) .((Evs.cons .(Ian Evs.nil) .((Evs.cons .(Ian Evs.nil) .(Evs.nil))))))))) z1 v1) .(As.tuple .(AsL.cons .(Ia4 4 (hp:=(by assumption))) .(AsL.cons .(Ia4 5) .(AsL.cons .(Ia4 6) .(AsL.cons .(Ia4 7) .(AsL.nil))))))) .(Exs.cons .(Ib3 .(ItE.list .(Iag .(Iaz .(Iad 0) EvO.none EvO.none (Iao .(Ic3 .(Ia1))) (by exact Lv.loc hrow) (by simp) (by assumption)) hrv) .(Lv.fz)) (by with_unfolding_all exact ForC.pre hloop (by exact Weak.refl))) .(Exs.cons .(Ia5 .(Iag .(Ev.list (Evs.cons .(Iak .(ItE.list .(Ia0 5) (Lv.loc haf)) (CompIn.of [none,none] (by kernel_rfl) (by kernel_rfl)) .(CompC.map Uu (afK f g kk 7) ((fun x:Nat=>AV.loc (eL n x))) ((fun x:Nat=>AV.int ((x:Nat):Int))) _ (fun x hx=>.(Ia4 1)) (fun x hx=>.(Ibg .(Iab .(Ia0 1) (by exact D7.els x (h7a x hx)) Uu qao) .(Ia8) (D7.att x (h7a x hx)) (hk x))) .(fun _=>Weak.set Uu) (hO:=by with_unfolding_all exact Lv.loc (by assumption)) (hz:=by assumption))) .((Evs.cons .(Iak .(ItE.list .(Ia0 6) (Lv.loc hah)) (CompIn.of [none,none] (by kernel_rfl) (by kernel_rfl)) .(CompC.map Uu (ahK f g kk 7) ((fun x:Nat=>AV.loc (eL n x))) ((fun x:Nat=>AV.int ((x:Nat):Int))) _ (fun x hx=>.(Ia4 1)) (fun x hx=>.(Ibg .(Iab .(Ia0 1) (by exact D7.els x (h7h x hx)) Uu qao) .(Ia8) (D7.att x (h7h x hx)) (hk x))) .(fun _=>Weak.set Uu) (hO:=by with_unfolding_all exact Lv.loc (by assumption)) (hz:=by assumption))) .((Evs.cons .(Ia0 7) .(Evs.nil))))))) (ev3)) .(Ibp .(Ied .(Iad 2) .(Ibg .(Iab .(Ia0 1) (by exact hg7) Uu qao) .(Ia8) ha7 hk7) hb2 hY' hpv hzk) e3)) .(Exs.ret .(Iaj .(Ia0 7))))))
    . have hSl:(σ.set fd X3).length=σ.length:=A5;have f2:frz σ.length (σ.set fd X3 ++ N3) (.loc (σ.length+2))=.lst (qa0 (dpK f g kk 7)):=qrt hSl (by rw[hN3];rfl) (qbi _);refine ⟨f2.symm,?_⟩;have f3:frz σ.length (σ.set fd X3 ++ N3) V3=foV f g kk:=by
        rw[hV3];show AV.lst [.lst (qel _ _ _),.lst (qel _ _ _),frz _ _ _]=_;rw[f2,qan _ (qbi _),qan _ (qbi _)];show _=AV.lst [_,_,.lst (qa0 (dk f g kk))];rw[qu5 f g hk4]
      rw[List.take_left' hSl,List.map_set,AN (g:=id) fun ao hao=>qg7 ao (c1 ao hao),List.map_id];congr 1
      rw[hX3] at f3 ⊢;show _=AObj.dint _ (qel _ _ _);rw[qg6];show _=AObj.dint _ (qel _ _ _ ++ [frz _ _ _]);rw[f3,qan,qru];refine qc8 fun v hv=>?_
      obtain ⟨x,_,rfl⟩:=Br.mp hv;show (qad _ (qa0 _)&&(qad _ (qa0 _)&&(qad _ (qa0 _)&&true)))=true;rw[qbi,qbi,qbi];rfl
end
end
section
theorem qs9 (x:Int):Es (Es x)=x:=by unfold Es;lia
theorem qm5 (a b:Nat):AE (a:Nat) (b:Nat)=((a &&& b:Nat):Int):=by
  unfold AE;rw[decide_eq_true (Bh a),decide_eq_true (Bh b)];rfl
theorem qoo (a b:Nat):DC (a:Nat) (b:Nat)=((a ||| b:Nat):Int):=by
  have h:∀n:Nat,decide (0<=Es (n:Int))=false:=fun n=>decide_eq_false (by unfold Es;lia)
  unfold DC AE;rw[h,h];simp only[qs9];rfl
theorem qef (a i:Nat):(AE ((a:Int).fdiv (2 ^ ((i:Nat):Int).toNat)) 1==1)=a.testBit i:=by
  have e:(a:Int).fdiv (2 ^ ((i:Nat):Int).toNat)=((a / 2 ^ i:Nat):Int):=by
    rw[show ((i:Nat):Int).toNat=i from rfl,show ((2:Int) ^ i)=((2 ^ i:Nat):Int) by rw[Int.natCast_pow];rfl,DO _ (Bh _)];rfl
  rw[e,bitAnd_m1,Nat.testBit_eq_decide_div_mod_eq,D6,beq_iff_eq,decide_eq_true_eq];omega
noncomputable def qaf:Nat->List Nat
  | 0=>[0]
  | t+1=>qaf t ++ (qaf t).map (· + 1)
theorem qc3:∀t,(qaf t).length=2 ^ t
  | 0=>rfl
  | t+1=>by rw[qaf,Ao,Ab,qc3 t,Dr];lia
theorem qj3:∀m:Fin 128,(qaf 7)[(m:Nat)]?=some (qbk m).length:=by decide +kernel
theorem qrd:∀m:Fin 128,0<(m:Nat)->AE ((m:Nat):Int) (-((m:Nat):Int))=((2 ^ (qbk m).headD 0:Nat):Int):=by decide +kernel
noncomputable abbrev qoz (x:Bool×Int):AV:=.tup [.str (qd8 x.1),.int x.2]
theorem encS_inj {L M:List (Bool×Int)}:AV.lst (L.map qoz)=.lst (M.map qoz)↔L=M:=by
  refine ⟨fun h=>?_,fun h=>h ▸ rfl⟩;injection h with h
  refine (List.map_inj_right fun x y h=>?_).mp h;injection h with h
  injection h with h1 h2
  injection h2 with h2 _
  injection h2 with h2
  exact Prod.ext (CK (eqb.mpr h1)) h2
theorem Ie7 (L:List (Bool×Int)):D1 64 (.lst (L.map qoz)):=D1.lst (d:=63) fun x _=>Ieb (d:=62) (D1.str (qh5 _)) D1.int
theorem ql9 (f:Nat->Int)(p i:Nat):(amN f p).testBit i=anN f i p:=qh6 _ rfl (qb2 f p) i
theorem qq8 (f:Nat->Int)(m p:Nat):(qbk (amN f p &&& m)).length=acL (anN f) (qbk m) p:=by
  unfold acL qbk;rw[List.filter_filter];congr 1
  refine Bx fun x _=>?_
  rw[Nat.testBit_and,ql9]
section
variable (F:Fac W) {f g:Nat->Int}
noncomputable def lfM (f g:Nat->Int) (ct:List Nat) (tp:List AV):List (Option AV):=[some (.lst (qas 7 f)),some (.lst (qas 4 g)),some (.lst (qa0 ct)),some (.lst tp),none,none,none,none,none,none,none]
noncomputable def ta211:PSigma (fun l=>(qbl (nth bd21.1 1))=l):=⟨_,by conv=>lhs;whnf⟩
noncomputable def bo211:PSigma (fun l=>(qbp (nth bd21.1 1))=l):=⟨_,by conv=>lhs;whnf⟩
include F in
theorem qk5 {t:Nat}(ht:t<7){tp:List AV}:Exs ⟨W,Y,nm21.1,cd⟩ k fr ((lfM f g (qaf t) tp).set 4 (some (.int (0+(t:Nat)*1)))) σ bo211.1 .next (lfM f g (qaf (t+1)) tp) σ:=by
  have hl:=qc3 t;have h128:2 ^ t<=2 ^ 7:=Cb (by decide) (Av ht);have hz:(qa0 (qaf t)).length+((qaf t).map fun c:Nat=>AV.int ((c:Nat)+1)).length<=Ai:=by rw[Ab,Ab,hl,Ay];lia
  have hz2:(qaf t).length<=2 ^ 20:=by rw[hl];lia
  have hv:AV.lst (qa0 (qaf t) ++ (qaf t).map fun c:Nat=>AV.int ((c:Nat)+1))=.lst (qa0 (qaf (t+1))):=by
    rw[qaf,qa0,qa0,A0,Bv];rfl
  have hp:plain (.lst (qa0 (qaf (t+1))))=true:=qa3 (fun _=>rfl) _;refine Exs.post (m2:=((lfM f g (qaf t) tp).set 4 (some (.int (0+(t:Nat)*1)))).set 2 (some (.lst (qa0 (qaf (t+1)))))) ?_ (by with_unfolding_all exact Ia6 2032);show Exs _ _ _ _ _ (_::_) _ _ _;exact .(Exs.cons .(Ia5 .(Iag .(Ia2 .(Iad 2) .(Iak .(ItE.list .(Iad 2) .(Lv.fz)) (CompIn.of [none,none] (by kernel_rfl) (by kernel_rfl)) .(CompC.map Uu (qaf t) ((fun c:Nat=>AV.int ((c:Nat):Int))) ((fun c:Nat=>AV.int ((c:Nat)+1))) _ (fun x hx=>.(Ia4 1)) (fun x hx=>.(Ia2 .(Ia0 1) .(Ia1) .(Iai))) .(fun _=>Weak.set Uu) (hp:=by with_unfolding_all exact qae (fun _=>rfl) _) (hz:=by assumption))) (Icl Lv.fz Lv.fz hz)) (hv)) .(Ic4 2 (hp:=(by assumption)))) .(Exs.nil))
include F in
theorem qk6 {tp:List AV}:∀(j t:Nat),t+j=7->ForC ⟨W,Y,nm21.1,cd⟩ k fr ta211.1 bo211.1 [] (.range 0 1 7) t (lfM f g (qaf t) tp) σ .next (lfM f g (qaf 7) tp) σ:=by
  intro j;induction j with
  | zero=>intro t ht;obtain rfl:t=7:=ht;exact ForC.done Bb rfl Exs.nil
  | succ j ih=>
    intro t ht;have ht7:t<7:=by lia
    refine ForC.next (m1:=(lfM f g (qaf t) tp).set 4 (some (.int (0+(t:Nat)*1)))) (z1:=σ) Bb rfl (qb4 ht7) nofun ?_ (qk5 F ht7) (ih (t+1) (by lia));show As _ _ _ _ _ (.Name _ _) _ _ _;exact .(Ia4 4)
end
end
section
section
variable (F:Fac W) {f g:Nat->Int} {m:Nat}
noncomputable abbrev pB (g:Nat->Int) (k q:Nat):Bool:=(((q:Nat):Int)==((k:Nat):Int))||(AE ((amI g q).fdiv (2 ^ ((k:Nat):Int).toNat)) 1==1)
theorem qvd (a b:Nat):(((a:Nat):Int)==((b:Nat):Int))=(a==b):=by rw[D6,beq_iff_eq,beq_iff_eq];exact Int.ofNat_inj
theorem qur (g:Nat->Int)(k q:Nat):pB g k q=bP g k q:=by
  show (_||_)=(_||_);rw[qvd,qj8,qef,ql9]
noncomputable abbrev qeq (g:Nat->Int):List AV:=(Ac 4).map fun k=>AV.lst ((shK g k).map qoz)
theorem qmo {g:Nat->Int}(h:k<4):(qeq g)[k]?=some (.lst ((shK g k).map qoz)):=by rw[Aj,Ba h];rfl
noncomputable abbrev qd4 (f g:Nat->Int) (m:Nat):List AV:=(Ac 4).map fun k=>AV.int ((qej f g k m:Nat):Int)
noncomputable def lgM (f g:Nat->Int) (m:Nat):List (Option AV):=[some (.lst (qas 7 f)),some (.lst (qas 4 g)),some (.lst (qa0 (qaf 7))),some (.lst (qd4 f g m)),none,some (.lst (qeq g)),none,none,none,none,none]
include F in
theorem qrg:Ex ⟨W,Y,nm21.1,cd⟩ k fr (lfM f g (qaf 7) (qd4 f g 0)) σ (nth bd21.1 2) .next (lgM f g 0) σ:=by
  have hsv:AV.lst ((Ac 4).map fun k=>AV.lst (((Ac 4).filter fun q=>pB g k q).map fun q=>AV.tup [.str (qd8 (qb8 g q)),.int (((qab g q).length:Nat) - ((qab g k).length:Nat))]))=.lst (qeq g):=by
    refine congrArg AV.lst (AN fun k _=>congrArg AV.lst ?_);rw[shK,Bv,Bx fun q _=>qur g k q];rfl
  have hpl:plain (.lst (qeq g))=true:=qa3 (fun k=>qa3 (fun _=>rfl) _) _;have hpi:∀x:Nat,plain (AV.lst (((Ac 4).filter fun q=>pB g x q).map fun q=>AV.tup [.str (qd8 (qb8 g q)),.int (((qab g q).length:Nat) - ((qab g x).length:Nat))]))=true:=fun x=>qa3 (fun _=>rfl) _
  refine Ex.post (m2:=(lfM f g (qaf 7) (qd4 f g 0)).set 5 (some (.lst (qeq g)))) ?_ (by with_unfolding_all exact Ia6 2000);show Ex _ _ _ _ _ (.Assign _ _ _) _ _ _;exact .(Ibc (i:=5) Uu .(Iag .(Iak .(ItE.call .(Iah 10 F.b_enumerate) .(Kept.type) (Evs.cons .(Iad 1) .(Evs.nil)) .(CallIt.enum (Lv.fz))) (Ibm [none,none,none,none,some 1] (by kernel_rfl) (by kernel_rfl) Uu) .(CompC.map Uu (Ac 4) ((fun k:Nat=>AV.tup [.int ((k:Nat):Int),qdz g k])) ((fun k=>AV.lst (((Ac 4).filter fun q=>pB g k q).map fun q=>AV.tup [.str (qd8 (qb8 g q)),.int (((qab g q).length:Nat) - ((qab g k).length:Nat))]))) _ (fun x hx=>.(As.tuple .(AsL.cons .(Ic4 1) .(AsL.cons .(Ic4 2) .(AsL.nil))))) (fun x hx=>.(Iak .(ItE.call .(Iah 3 F.b_enumerate) .(Kept.type) (Evs.cons .(Iad 4) .(Evs.nil)) .(CallIt.enum (Lv.fz))) (CompIn.of [none,none,none,some 2,some 1] (by kernel_rfl) (by kernel_rfl)) .(Iaq Uu (Ac 4) ((fun q:Nat=>AV.tup [.int ((q:Nat):Int),qdz g q])) ((fun q=>pB g x q)) ((fun q=>AV.tup [.str (qd8 (qb8 g q)),.int (((qab g q).length:Nat) - ((qab g x).length:Nat))])) _ (fun x1 hx1=>.(As.tuple .(AsL.cons .(Ia4 1) .(AsL.cons .(Ia4 2) .(AsL.nil))))) (fun x1 hx1=>.(Ibb .(Ibe .(Ia3 .(Ia0 1) .(Iad 4) .(Ib2)) (fun _=>.(Ibj .(Ia3 .(Ia2 .(Ia2 .(Iay .(Ia0 2) .(Ia1) .(⟨_,rfl,rfl⟩)) .(Iad 4) (Ic6 (Bh _))) .(Ia1) .(Op2.and)) .(Ia1) .(Ib2)))) (fun _=>rfl)))) (fun x1 hx1 hp=>.(Ev.tuple (Evs.cons .(Iay .(Ia0 2) .(Ia1) .(⟨_,rfl,rfl⟩)) .((Evs.cons .(Ia2 .(Iay .(Ia0 2) .(Ia1) .(⟨_,rfl,rfl⟩)) .(Iay .(Iad 3) .(Ia1) .(⟨_,rfl,rfl⟩)) .(Icy)) .(Evs.nil)))))) .(fun _=>Ib5 (Weak.set Uu) Uu) (ht:=by exact (fun _=>⟨_,_,_,rfl⟩))))) .(fun _=>Ib5 (Weak.set Uu) Uu) (hf:=by intros;with_unfolding_all exact qae (fun _=>rfl) _) (ht:=by exact (fun _=>⟨_,_,_,rfl⟩)))) (hsv)) (by assumption))
noncomputable def ta213:PSigma (fun l=>(qbl (nth bd21.1 3))=l):=⟨_,by conv=>lhs;whnf⟩
noncomputable def bo213:PSigma (fun l=>(qbp (nth bd21.1 3))=l):=⟨_,by conv=>lhs;whnf⟩
include F in
theorem qng (h0:0<m)(hm:m<128):Exs ⟨W,Y,nm21.1,cd⟩ k fr ((lgM f g m).set 6 (some (.int ((m:Nat):Int)))) σ bo213.1 .next (lgM f g (m+1)) σ:=by
  have hc:=qj3 ⟨m,hm⟩;have hzc:(qa0 (qaf 7)).length<=Ai:=by rw[Ab,qc3,Ay];decide
  have hcm:(qa0 (qaf 7))[m]?=some (.int (((qbk m).length:Nat):Int)):=by rw[Aj,show (qaf 7)[m]?=some (qbk m).length from hc];rfl
  have hz4:(qas 4 g).length<=Ai:=by exact (by decide:4<=Ai)
  by_cases h4:(qbk m).length<=4
  . have hd:decide ((((qbk m).length:Nat):Int)<=(((qas 4 g).length:Nat):Int))=true:=decide_eq_true (by rw[Ab,AM];lia);have han:∀x:Nat,AE (amI f x) ((m:Nat):Int)=((amN f x &&& m:Nat):Int):=fun x=>by rw[qj8,qm5]
    have hlt:∀x,amN f x &&& m<128:=fun x=>An Nat.and_le_right hm
    have hca:∀x:Nat,(qa0 (qaf 7))[amN f x &&& m]?=some (.int (((qbk (amN f x &&& m)).length:Nat):Int)):=fun x=>by rw[Aj,show (qaf 7)[amN f x &&& m]?=some (qbk (amN f x &&& m)).length from qj3 ⟨_,hlt x⟩];rfl
    have hsv:AV.lst (((Ac 7).filter fun p:Nat=>AE (((m:Nat):Int).fdiv (2 ^ ((p:Nat):Int).toNat)) 1==1).map fun p=>AV.tup [.str (qd8 (qb8 f p)),.int (((qbk (amN f p &&& m)).length:Nat):Int)])=.lst ((shM f m).map qoz):=by
      rw[shM,Bv,Bx fun p _=>qef m p];refine congrArg AV.lst (AN fun p _=>?_);rw[qq8];rfl
    have hpl:plain (.lst ((shM f m).map qoz))=true:=qa3 (fun _=>rfl) _;have hq:∀x:Nat,decide (shM f m=shK g x)=true↔AV.lst ((shM f m).map qoz)=.lst ((shK g x).map qoz):=fun x=>by rw[decide_eq_true_iff];exact encS_inj.symm
    have hzs:(qeq g).length<=Ai:=by exact (by decide:4<=Ai)
    have hx4:∀x∈Ac 4,x<4:=fun x h=>Bi.mp h
    have ht:∀x:Nat,decide (shM f m=shK g x)=true->AV.int (DC ((qej f g x m:Nat):Int) (AE ((m:Nat):Int) (-((m:Nat):Int))))=.int ((qej f g x (m+1):Nat):Int):=fun x h=>by
      rw[qrd ⟨m,hm⟩ h0,qoo,qej,if_pos ⟨h0,h4,of_decide_eq_true h⟩]
    have hf:∀x:Nat,decide (shM f m=shK g x)=false->AV.int ((qej f g x m:Nat):Int)=.int ((qej f g x (m+1):Nat):Int):=fun x h=>by
      rw[qej,if_neg fun q=>of_decide_eq_false h q.2.2]
    refine Exs.post (m2:=(((lgM f g m).set 6 (some (.int ((m:Nat):Int)))).set 7 (some (.lst ((shM f m).map qoz)))).set 3 (some (.lst (qd4 f g (m+1))))) ?_ (by with_unfolding_all exact Ia6 2000);show Exs _ _ _ _ _ (_::_) _ _ _;exact .(Exs.cons .(Ia7 (c:=true) .(Iaa .(Ia3 .(Ia9 .(Iad 2) .(Iad 6) .(Lv.fz) (by exact qbc rfl hcm) (by exact hzc)) .(Ev.call .(Iah 8 F.b_len) .(Kept.builtin) (Evs.cons .(Iad 1) .(Evs.nil)) EvK.nil (Calls.len Lv.fz hz4)) .(Op2.le)) hd) (fun _=>.(Exs.cons .(Ibc (i:=7) Uu .(Iag .(Iak .(ItE.call .(Iah 10 F.b_enumerate) .(Kept.type) (Evs.cons .(Ia0 0) .(Evs.nil)) .(CallIt.enum (Lv.fz))) (CompIn.of [none,none,none,some 2,some 6] (by kernel_rfl) (by kernel_rfl)) .(Iaq Uu (Ac 7) ((fun p:Nat=>AV.tup [.int ((p:Nat):Int),qdz f p])) ((fun p:Nat=>AE (((m:Nat):Int).fdiv (2 ^ ((p:Nat):Int).toNat)) 1==1)) ((fun p=>AV.tup [.str (qd8 (qb8 f p)),.int (((qbk (amN f p &&& m)).length:Nat):Int)])) _ (fun x hx=>.(As.tuple .(AsL.cons .(Ia4 1) .(AsL.cons .(Ia4 2) .(AsL.nil))))) (fun x hx=>.(Ia3 .(Ia2 .(Ia2 .(Iad 4) .(Ia0 1) (Ic6 (Bh _))) .(Ia1) .(Op2.and)) .(Ia1) .(Ib2))) (fun x hx hp=>.(Ev.tuple (Evs.cons .(Iay .(Ia0 2) .(Ia1) .(⟨_,rfl,rfl⟩)) .((Evs.cons .(Ia9 .(Iad 3) .(Ia2 .(Iay .(Ia0 2) .(Ia1) .(⟨_,rfl,rfl⟩)) .(Iad 4) .(Op2.and)) .(Lv.fz) (by exact qbc (han x) (hca x)) (by exact hzc)) .(Evs.nil)))))) .(fun _=>Ib5 (Weak.set Uu) Uu) (ht:=by exact (fun _=>⟨_,_,_,rfl⟩)))) (hsv)) (by assumption)) .(Exs.cons .(Ib8 (i:=3) Uu .(ItE.call .(Iah 10 F.b_enumerate) .(Kept.type) (Evs.cons .(Ia0 3) .(Evs.nil)) .(CallIt.enum (Lv.fz))) (CompIn.of [none,none,none,some 6,some 7,some 5] (by kernel_rfl) (by kernel_rfl)) .(CompC.map Uu (Ac 4) ((fun k:Nat=>AV.tup [.int ((k:Nat):Int),.int ((qej f g k m:Nat):Int)])) ((fun k:Nat=>AV.int ((qej f g k (m+1):Nat):Int))) _ (fun x hx=>.(As.tuple .(AsL.cons .(Ia4 1) .(AsL.cons .(Ia4 2) .(AsL.nil))))) (fun x hx=>.(Ib9 .(Ia3 .(Iad 4) .(Ia9 .(Iad 5) .(Ia0 1) .(Lv.fz) (by exact qbc rfl (qmo (hx4 x hx))) (by exact hzs)) (Ibo (Dv.of (Ie7 _)) (Dv.of (Ie7 _)) (hq x))) (fun hc=>.(Iag .(Ia2 .(Ia0 2) .(Ia2 .(Iad 3) .(Ic3 .(Iad 3)) .(Op2.and)) .(Iee)) (ht x hc))) (fun hc=>.(Iag .(Ia0 2) (hf x hc))))) .(fun _=>Ib5 (Weak.set Uu) Uu) (ht:=by exact (fun _=>⟨_,_,_,rfl⟩))) .(qae (fun _=>Uu) _)) .(Exs.nil)))) (fun h=>nomatch h)) .(Exs.nil))
  . have hd:decide ((((qbk m).length:Nat):Int)<=(((qas 4 g).length:Nat):Int))=false:=decide_eq_false (by rw[Ab,AM];lia);have e:qd4 f g (m+1)=qd4 f g m:=AN fun x _=>by rw[qej,if_neg fun q=>h4 q.2.1]
    have eM:lgM f g (m+1)=lgM f g m:=by unfold lgM;rw[e]
    rw[eM];refine Exs.post (m2:=(lgM f g m).set 6 (some (.int ((m:Nat):Int)))) ?_ (by with_unfolding_all exact Ia6 2000);show Exs _ _ _ _ _ (_::_) _ _ _;exact .(Exs.cons .(Ia7 (c:=false) .(Iaa .(Ia3 .(Ia9 .(Iad 2) .(Iad 6) .(Lv.fz) (by exact qbc rfl hcm) (by exact hzc)) .(Ev.call .(Iah 8 F.b_len) .(Kept.builtin) (Evs.cons .(Iad 1) .(Evs.nil)) EvK.nil (Calls.len Lv.fz hz4)) .(Op2.le)) hd) (fun h=>nomatch h) (fun _=>.(Exs.nil))) .(Exs.nil))
end
end
section
section
variable (F:Fac W) {f g:Nat->Int}
include F in
theorem qnm:∀(j m:Nat),m+j=128->1<=m->ForC ⟨W,Y,nm21.1,cd⟩ k fr ta213.1 bo213.1 [] (.range 1 1 127) (m - 1) (lgM f g m) σ .next (lgM f g 128) σ:=by
  intro j;induction j with
  | zero=>intro m hm h1;obtain rfl:m=128:=hm;exact ForC.done Bb rfl Exs.nil
  | succ j ih=>
    intro m hm h1;have h:=ih (m+1) (by lia) (by simp);have hm1:m+1 - 1=m - 1+1:=by simp_all
    rw[hm1] at h;refine ForC.next (m1:=(lgM f g m).set 6 (some (.int ((m:Nat):Int)))) (z1:=σ) (v:=.int ((m:Nat):Int)) Bb rfl ?_ nofun ?_ (qng F h1 (by lia)) h
    . rw[qb4 (by lia)];congr 2;lia
    . show As _ _ _ _ _ (.Name _ _) _ _ _;with_reducible exact .(Ic4 6)
include F in
theorem qlu:Calls W Y (k+1) fr σ (.glob (.ref A21)) [.lst (qas 7 f),.lst (qas 4 g)] [] [] (.lst (qd4 f g 128)) σ:=by
  have hpo:∀N h,plain (.lst (qas N h))=true:=fun N h=>qa3 (fun _=>rfl) _
  have hpt:plain (.lst (qd4 f g 128))=true:=qa3 (fun _=>rfl) _;refine Iax (F.f21 (.lst (qas 7 f)) (.lst (qas 4 g)) (hpo 7 f) (hpo 4 g)) (m':=[]) (fl:=.ret (.lst (qd4 f g 128))) (fun cd env _=>?_) rfl hpt;have h1:=qk6 F (Y:=fun m=>Y m\/σ.length<=m) (cd:=cd) (k:=k) (fr:=env::fr) (σ:=σ) (f:=f) (g:=g) (tp:=qd4 f g 0) 7 0 rfl;have h2:=qrg F (Y:=fun m=>Y m\/σ.length<=m) (cd:=cd) (k:=k) (fr:=env::fr) (σ:=σ) (f:=f) (g:=g);have h3:=qnm F (Y:=fun m=>Y m\/σ.length<=m) (cd:=cd) (k:=k) (fr:=env::fr) (σ:=σ) (f:=f) (g:=g) 127 1 rfl (Ak _);have e1:lgM f g 1=lgM f g 0:=by
    have h0:∀x,qej f g x 1=qej f g x 0:=fun x=>if_neg fun q=>BV _ q.1
    have:qd4 f g 1=qd4 f g 0:=AN fun x _=>by rw[h0]
    unfold lgM;rw[this]
  rw[e1] at h3;have h2:Ex _ _ _ _ _ (.Assign [.Name _ _] (.ListComp (.ListComp _ _ _ _) _ _ _) _) _ _ _:=h2;have hz4:(qas 4 g).length<=Ai:=by exact (by decide:4<=Ai)
  have hz7:(qas 7 f).length<=Ai:=by exact (by decide:7<=Ai)
  have hzc:(qa0 (qaf 7)).length<=Ai:=by rw[Ab,qc3,Ay];decide
  have hm0:(0:Int)<=((qas 4 g).length:Nat):=Bh _;have hm1:(((qas 4 g).length:Nat):Int)<2 ^ 24:=by exact (by decide:(4:Int)<2 ^ 24)
  have hm2:[AV.int 0].length*(((qas 4 g).length:Nat):Int).toNat<=2 ^ 24:=by exact (by decide:4<=2 ^ 24)
  have v1:AV.tup [.lst [.int 0],.lst (AR (((qas 4 g).length:Nat):Int).toNat [AV.int 0]).flatten]=.tup [.lst (qa0 (qaf 0)),.lst (qd4 f g 0)]:=rfl;have hr1:-(2 ^ 62)<=(((qas 7 f).length:Nat):Int)/\(((qas 7 f).length:Nat):Int)<2 ^ 62:=by exact (by decide:-(2 ^ 62)<=(7:Int)/\(7:Int)<2 ^ 62)
  have hr2:-(2 ^ 62)<=(1:Int)/\(1:Int)<2 ^ 62/\-(2 ^ 62)<=(((qa0 (qaf 7)).length:Nat):Int)/\(((qa0 (qaf 7)).length:Nat):Int)<2 ^ 62:=by rw[Ab,qc3];decide
  have hp0:plain (.lst (qa0 (qaf 0)))=true:=rfl;have hp1:plain (.lst (qd4 f g 0))=true:=rfl;have en:AV.int ((((qa0 (qaf 7)).length:Nat):Int))=.int 128:=congrArg AV.int (by rw[Ab,qc3];rfl);have hr3:-(2 ^ 62)<=(1:Int)/\(1:Int)<2 ^ 62/\-(2 ^ 62)<=(128:Int)/\(128:Int)<2 ^ 62:=by decide
  have c2:Calls W (fun m=>Y m\/σ.length<=m) k (env::fr) σ (.glob (.builtin "len")) [.lst (qa0 (qaf 7))] [] [] (.int 128) σ:=Iap (Calls.len Lv.fz hzc) en rfl;have c1:Calls W (fun m=>Y m\/σ.length<=m) k (env::fr) σ (.glob (.builtin "len")) [.lst (qas 7 f)] [] [] (.int 7) σ:=Iap (Calls.len Lv.fz hz7) rfl rfl;with_reducible refine Exs.f (Iae (m2:=lgM f g 128) ?_)
  show Exs _ _ _ _ _ (_::_) _ _ _;with_reducible exact .(Exs.cons .(Ic8 (i:=2) (j:=3) .(Iag .(Ev.tuple (Evs.cons .(Ev.list (Evs.cons .(Ia1) .(Evs.nil))) .((Evs.cons .(Ia2 .(Ev.list (Evs.cons .(Ia1) .(Evs.nil))) .(Ev.call .(Iah 8 F.b_len) .(Kept.builtin) (Evs.cons .(Iad 1) .(Evs.nil)) EvK.nil (Calls.len Lv.fz hz4)) (Idw Lv.fz hm0 hm1 hm2)) .(Evs.nil))))) (v1)) Uu Uu (by decide) (by assumption) (by assumption)) .(Exs.cons .(Ib3 .(ItE.call .(Iah 9 F.b_range) .(Kept.type) (Evs.cons .(Ev.call .(Iah 8 F.b_len) .(Kept.builtin) (Evs.cons .(Ia0 0) .(Evs.nil)) EvK.nil (c1)) .(Evs.nil)) (Iam (by decide))) (by with_unfolding_all exact ForC.pre h1 (by exact Weak.refl))) .(Exs.cons .(h2) .(Exs.cons .(Ib3 .(ItE.call .(Iah 9 F.b_range) .(Kept.type) (Evs.cons .(Ia1) .((Evs.cons .(Ev.call .(Iah 8 F.b_len) .(Kept.builtin) (Evs.cons .(Iad 2) .(Evs.nil)) EvK.nil (c2)) .(Evs.nil)))) (Icp hr3)) (by with_unfolding_all exact ForC.pre h3 (by exact Weak.refl))) .(Exs.ret .(Iaj .(Ia0 3)))))))
end
end
section
noncomputable def base2:List Int:=[70,7,1,2,9,3,7,14,4,5,9,4087]
noncomputable abbrev qm0 (scr:List Int) (t:Nat):List Int:=(pickL (pickL scr none (some 60) none) (some ((t:Nat):Int)) none (some 12)).map fun v=>v.fmod 1000000
noncomputable def qoi (scr:List Int) (t:Nat):Int:=base2.getD t 0+(qm0 scr t).sum
noncomputable def qtn (a:List (Option AV)):List (Option AV):=a ++ AR (43 - a.length) none
section
variable (F:Fac W) {scr:List Int}
theorem qlm (l:List α)(t:Nat):(pickL l (some ((t:Nat):Int)) none (some 12)).length<=l.length:=by
  refine Af (List.length_filterMap_le _ _) (sliceRange_length_le _ _ _ _ (fun hc=>?_) fun hc=>?_)
  . simp only[B6] at hc ⊢;simp only[hc,if_true];constructor
    . omega
    . simp
  . simp[B6] at hc
theorem ql4 {scr:List Int}(hz:scr.length<=63)(t:Nat):(pickL (pickL scr none (some 60) none) (some ((t:Nat):Int)) none (some 12)).length<=60:=by
  refine Af (qlm _ t) ?_;rw[show pickL scr none (some 60) none=scr.take 60 from qfr scr 60,Df];lia
theorem qnh {f:α->Int}{l:List α}:Lv σ (.lst (l.map fun x=>.int (f x))) (qa7 (l.map f)):=.inl (by rw[qa7,Bv];rfl)
noncomputable abbrev base2L:List (Nat×Int):=[(0,70),(1,7),(2,1),(3,2),(4,9),(5,3),(6,7),(7,14),(8,4),(9,5),(10,9),(11,4087)]
include F in
theorem qtm (hz:scr.length<=63):Ex ⟨W,Y,nm22.1,cd⟩ k fr (qtn [some (.lst (qa7 scr))]) σ (nth bd22.1 0) .next ((qtn [some (.lst (qa7 scr))]).set 1 (some (.lst (qd1 12 (qoi scr))))) σ:=by
  have e1:AV.lst (qbq (qa7 scr) none (some 60) none)=.lst (qa7 (pickL scr none (some 60) none)):=by rw[qa7,qi9]
  have e2:∀x:Nat×Int,AV.lst (qbq (qa7 (pickL scr none (some 60) none)) (some x.1) none (some 12))=.lst (qa7 (pickL (pickL scr none (some 60) none) (some x.1) none (some 12))):=fun x=>by rw[qa7,qi9]
  have z1:(qa7 scr).length<=Ai:=by rw[Ay,qa7,Ab];lia
  have z2:(qa7 (pickL scr none (some 60) none)).length<=Ai:=by rw[qa7,Ab,show pickL scr none (some 60) none=scr.take 60 from qfr scr 60,Df,Ay];lia
  have hz3:∀x:Nat×Int,(pickL (pickL scr none (some 60) none) (some x.1) none (some 12)).length<=2 ^ 20:=fun x=>Af (ql4 hz x.1) (by decide)
  have h:Ex ⟨W,Y,nm22.1,cd⟩ k fr (qtn [some (.lst (qa7 scr))]) σ (nth bd22.1 0) .next ((qtn [some (.lst (qa7 scr))]).set 1 (some (.lst (base2L.map fun x=>AV.int (x.2+(qm0 scr x.1).sum))))) σ:=by
    show Ex _ _ _ _ _ (.Assign _ _ _) _ _ _;exact .(Ib8 (i:=1) Uu .(ItE.call .(Iah 24 F.b_enumerate) .(Kept.type) (Evs.cons .(Ev.list (Evs.cons .(Ia1) .((Evs.cons .(Ia1) .((Evs.cons .(Ia1) .((Evs.cons .(Ia1) .((Evs.cons .(Ia1) .((Evs.cons .(Ia1) .((Evs.cons .(Ia1) .((Evs.cons .(Ia1) .((Evs.cons .(Ia1) .((Evs.cons .(Ia1) .((Evs.cons .(Ia1) .((Evs.cons .(Ia1) .(Evs.nil))))))))))))))))))))))))) .(Evs.nil)) .(CallIt.enum (Lv.fz))) (CompIn.of [none,none,none,none,some 0] (by kernel_rfl) (by kernel_rfl)) .(CompC.map Uu (base2L) ((fun x=>AV.tup [.int x.1,.int x.2])) ((fun x=>AV.int (x.2+(qm0 scr x.1).sum))) _ (fun x hx=>.(As.tuple .(AsL.cons .(Ia4 1) .(AsL.cons .(Ia4 2) .(AsL.nil))))) (fun x hx=>.(Ia2 .(Ia0 2) .(Ev.call .(Iah 3 F.b_sum) .(Kept.builtin) (Evs.cons .(Iak .(ItE.list .(Iag .(Iaz .(Iag .(Iaz .(Iad 4) EvO.none (Iao .(Ia1)) EvO.none .(Lv.fz) (by simp) (by assumption)) e1) (Iao .(Ia0 1)) EvO.none (Iao .(Ia1)) .(Lv.fz) (by simp) (by assumption)) (e2 x)) .(Lv.fz)) (CompIn.of [none,none] (by kernel_rfl) (by kernel_rfl)) .(CompC.map Uu (pickL (pickL scr none (some 60) none) (some x.1) none (some 12)) (AV.int) ((fun v=>AV.int (v.fmod 1000000))) _ (fun x1 hx1=>.(Ia4 1)) (fun x1 hx1=>.(Ia2 .(Ia0 1) .(Ia1) .(Iaw (by decide)))) .(fun _=>Weak.set Uu) (hp:=by with_unfolding_all exact qae (fun _=>rfl) _) (hz:=by exact hz3 x))) .(Evs.nil)) EvK.nil ((by exact Calls.sum qnh))) .(Iai))) .(fun _=>Ib5 (Weak.set Uu) Uu) (ht:=by exact (fun _=>⟨_,_,_,rfl⟩))) .(qae (fun _=>Uu) _))
  exact h
end
section
variable (F:Fac W) {c:Nat->Int}
noncomputable def qfi (c:Nat->Int):List Int:=(Ac 12).flatMap fun t=>qmc (c t) (((t:Nat):Int).fmod 2)
noncomputable def lm1 (c:Nat->Int):List (Option AV):=[none,some (.lst (qd1 12 c)),none,none,none,none,none,none,none,none,none,none,none,none,none,none,none,none,none,none,none,none,none,none,none,none,none,none,none,none,none,none,none,none,none,none,none,none,none,none,none,none,none]
noncomputable def lm2 (c:Nat->Int):List (Option AV):=[none,some (.lst (qd1 12 c)),some (.loc 0),none,none,none,none,none,none,none,none,none,none,none,none,none,none,none,none,none,none,none,none,none,none,none,none,none,none,none,none,none,none,none,none,none,none,none,none,none,none,none,none]
theorem qq0 (n w:Int):(qmc n w).length<=6:=by
  obtain ⟨hl,h,t,e⟩:=qgx (n:=n) (w:=w);unfold qmc;rw[e] at hl ⊢;simpa using hl
theorem qp1 (c:Nat->Int):(qfi c).length<=72:=by
  have key:∀L:List Nat,(L.flatMap fun t=>qmc (c t) (((t:Nat):Int).fmod 2)).length<=L.length*6:=by
    intro L;induction L with
    | nil=>exact Ak _
    | cons t L ih=>rw[B7,Ao,BY];have:=qq0 (c t) (((t:Nat):Int).fmod 2);omega
  exact key (Ac 12)
theorem qlc {c:Nat->Int}(hc:∀t,0<=c t/\c t<64 ^ 6):Reads ((Ac 12).map c) (qfi c):=by
  have key:∀L:List Nat,Reads (L.map c) (L.flatMap fun t=>qmc (c t) (((t:Nat):Int).fmod 2)):=by
    intro L;induction L with
    | nil=>rfl
    | cons t L ih=>exact ⟨_,qsv (w:=((t:Nat):Int).fmod 2) (hc t).1 (hc t).2 _,ih⟩
  exact key _
include F in
theorem qtl:Ex ⟨W,Y,nm22.1,cd⟩ (k+1) fr (lm1 c) [] (nth bd22.1 1) .next (lm2 c) [.iter (qa7 (qfi c))]:=by
  have hz:((Ac 12).flatMap fun t:Nat=>qmc (c t) (((t:Nat):Int).fmod 2)).length<=2 ^ 20:=Af (qp1 c) (by decide);have hkd:=(F.f13 .none .none rfl rfl).kept;have e1:AV.lst ((Ac 12).flatMap fun t:Nat=>(qmc (c t) (((t:Nat):Int).fmod 2)).map fun o=>AV.int o)=.lst (qa7 (qfi c)):=by
    rw[qa7,qfi,List.map_flatMap]
  have hpt:plains (qa7 (qfi c))=true:=qfo _;have h:Ex ⟨W,Y,nm22.1,cd⟩ (k+1) fr (lm1 c) [] (nth bd22.1 1) .next ((lm1 c).set 2 (some (.loc ([]:List AObj).length))) ([] ++ [.iter (qa7 (qfi c))]):=by
    show Ex _ _ _ _ _ (.Assign _ _ _) _ _ _;exact .(Ia5 .(Ev.call .(Iah 25 F.b_iter) .(Kept.builtin) (Evs.cons .(Iag .(Iak .(ItE.call .(Iah 24 F.b_enumerate) .(Kept.type) (Evs.cons .(Ia0 1) .(Evs.nil)) .(CallIt.enum (Lv.fz))) (CompIn.of [none,none,none,none,none] (by kernel_rfl) (by kernel_rfl)) .(CompC.nest Uu Uu (Ac 12) ((fun t:Nat=>AV.tup [.int ((t:Nat):Int),.int (c t)])) ((fun t:Nat=>qmc (c t) (((t:Nat):Int).fmod 2))) ((fun _ o=>AV.int o)) ((fun _ o=>AV.int o)) _ (fun x hx=>.(As.tuple .(AsL.cons .(Ia4 1) .(AsL.cons .(Ia4 2) .(AsL.nil))))) _ (fun x hx=>.(ItE.list .(Ev.call .(Iac 4 F.g_law_digits) (hkd) (Evs.cons .(Ia0 2) .((Evs.cons .(Ia2 .(Ia0 1) .(Ia1) .(Iaw (by decide))) .(Evs.nil)))) EvK.nil (qj1 F)) .(Lv.fz))) _ (fun x hx y hy=>.(Ia4 3)) (fun x hx y hy=>.(Ia0 3)) .(fun _=>Ib5 (Weak.set Uu) Uu) (by intro _ _;exact Weak.set Uu) (by intro _ _;with_unfolding_all rfl) (by first | (with_reducible assumption) | with_unfolding_all rfl) (by intro _ _;first | (with_reducible assumption) | with_unfolding_all rfl) Uu (by with_unfolding_all exact Lv.fz) (by intro _;with_unfolding_all exact Lv.fz) Uu (by intro _;with_unfolding_all exact qdn _) (by with_unfolding_all first | exact (fun _=>⟨_,_,_,rfl⟩) | exact (fun h=>by cases h)) (by intro _;with_unfolding_all first | exact (fun _=>⟨_,_,_,rfl⟩) | exact (fun h=>by cases h)) (by intro _ _;with_unfolding_all rfl) (by exact hz))) (e1)) .(Evs.nil)) EvK.nil (Id8 hpt)) .(Ia4 2))
  exact h
noncomputable abbrev st1 (c:Nat->Int):List AObj:=[.iterDone,.lst (qd1 12 c)]
noncomputable abbrev st2 (c:Nat->Int):List AObj:=[.iterDone,.lst (qd1 12 c),.dint [] []]
noncomputable abbrev cG (c:Nat->Int) (i:Nat):Int:=c (7+i)
noncomputable def lm3 (c:Nat->Int):List (Option AV):=[none,some (.lst (qd1 12 c)),none,some (.lst (qas 7 c)),some (.lst (qas 4 (cG c))),some (.int ((c 11).fmod 26)),some (.loc 2),none,none,none,none,none,none,none,none,none,none,none,none,none,none,none,none,none,none,none,none,none,none,none,none,none,none,none,none,none,none,none,none,none,none,none,none]
noncomputable def lm4 (c:Nat->Int):List (Option AV):=[none,some (.lst (qd1 12 c)),none,some (.lst (qas 7 c)),some (.lst (qas 4 (cG c))),some (.int ((c 11).fmod 26)),some (.loc 2),some (.loc 3),some (.bool true),none,none,none,none,none,none,none,none,none,none,none,none,none,none,none,none,none,none,none,none,none,none,none,none,none,none,none,none,none,none,none,none,none,none]
noncomputable def lm5 (c:Nat->Int) (pn:Nat):List (Option AV):=[none,some (.lst (qd1 12 c)),none,some (.lst (qas 7 c)),some (.lst (qas 4 (cG c))),some (.int ((c 11).fmod 26)),some (.loc 2),some (.loc 3),some (.bool true),some (.loc pn),some (.bool true),none,none,none,none,none,none,none,none,none,none,none,none,none,none,none,none,none,none,none,none,none,none,none,none,none,none,none,none,none,none,none,none]
noncomputable def lm7 (c:Nat->Int):List (Option AV):=[none,some (.lst (qd1 12 c)),none,some (.lst (qas 7 c)),some (.lst (qas 4 (cG c))),some (.int ((c 11).fmod 26)),some (.loc 2),some (.loc 3),none,none,none,none,none,none,none,none,none,none,none,none,none,none,none,none,none,none,none,none,none,none,none,none,none,none,none,none,none,none,none,none,none,none,none]
include F in
theorem qtk (hc:∀t,0<=c t/\c t<64 ^ 6)(hY:∀n,Y n):Ex ⟨W,Y,nm22.1,cd⟩ (k+2) fr (lm2 c) [.iter (qa7 (qfi c))] (nth bd22.1 2) .next (lm1 c) (st1 c):=by
  have hkr:=(F.f14 .none .none).kept;have hread:Calls W Y (k+2) fr ([.iter (qa7 (qfi c))] ++ [.lst []]) (.glob (.ref A14)) [.loc 0,.loc [AObj.iter (qa7 (qfi c))].length] [] [] (.loc 1) (st1 c):=qlj F (hY 0) (hY 1) (by decide) rfl rfl (qlc hc) (by show 12<20;decide);have hne:false=true↔AV.lst (qa7 ((Ac 12).map c))≠.lst (qa7 ((Ac 12).map c)):=by simp
  have h:Ex ⟨W,Y,nm22.1,cd⟩ (k+2) fr (lm2 c) [.iter (qa7 (qfi c))] (nth bd22.1 2) .next (lm2 c) (st1 c):=by
    show Ex _ _ _ _ _ (.If _ _ _ _) _ _ _;exact .(Ia7 (c:=false) .(Iaa .(Ia3 .(Ev.call .(Iac 26 F.g_law_read) (hkr) (Evs.cons .(Ia0 2) .((Evs.cons .(Ian Evs.nil) .(Evs.nil)))) EvK.nil (hread)) .(Ia0 1) ((by with_unfolding_all exact Ics (c:=false) (Idi (n:=1) (l:=(Ac 12).map c) rfl) (Id4 (l:=(Ac 12).map c)) hne))) rfl) (fun h=>nomatch h) (fun _=>.(Exs.nil)))
  exact Ex.post h (by with_unfolding_all exact Ia6 8796093022205)
include F in
theorem qtj:Ex ⟨W,Y,nm22.1,cd⟩ (k+1) fr (lm1 c) (st1 c) (nth bd22.1 3) .next (lm3 c) (st2 c):=by
  have hkr:=(F.f16 .none).kept;have hz:(qd1 12 c).length<=Ai:=by exact (by decide:12<=Ai)
  have e7:AV.lst (qbq (qd1 12 c) none (some 7) none)=.lst (qd1 7 c):=by kernel_rfl
  have e4:AV.lst (qbq (qd1 12 c) (some 7) (some 11) none)=.lst (qd1 4 (cG c)):=by kernel_rfl
  have c1:=qia F (Y:=Y) (k:=k) (fr:=fr) (σ:=st1 c) (N:=7) (f:=c) (by decide);have c2:=qia F (Y:=Y) (k:=k) (fr:=fr) (σ:=st1 c) (N:=4) (f:=cG c) (by decide);have hp7:plain (.lst (qas 7 c))=true:=qa3 (fun _=>rfl) _;have hp4:plain (.lst (qas 4 (cG c)))=true:=qa3 (fun _=>rfl) _;have h11:=qhe (f:=c) (N:=12) (t:=11) (by decide);have h:Ex ⟨W,Y,nm22.1,cd⟩ (k+1) fr (lm1 c) (st1 c) (nth bd22.1 3) .next (((((lm1 c).set 3 (some (.lst (qas 7 c)))).set 4 (some (.lst (qas 4 (cG c))))).set 5 (some (.int ((c 11).fmod 26)))).set 6 (some (.loc 2))) (st2 c):=by
    show Ex _ _ _ _ _ (.Assign _ _ _) _ _ _;exact .(Ia5 .(Ibu .(Ev.tuple (Evs.cons .(Ev.call .(Iac 27 F.g_law_outline) (hkr) (Evs.cons .(Iag .(Iaz .(Ia0 1) EvO.none (Iao .(Ia1)) EvO.none .(Lv.fz) (by simp) (by assumption)) e7) .(Evs.nil)) EvK.nil (c1)) .((Evs.cons .(Ev.call .(Iac 27 F.g_law_outline) (hkr) (Evs.cons .(Iag .(Iaz .(Ia0 1) (Iao .(Ia1)) (Iao .(Ia1)) EvO.none .(Lv.fz) (by simp) (by assumption)) e4) .(Evs.nil)) EvK.nil (c2)) .((Evs.cons .(Ia2 .(Ia9 .(Ia0 1) .(Ia1) .(Lv.fz) (by exact qbc rfl h11) (by exact hz)) .(Ia1) .(Iaw (by decide))) .((Evs.cons .(Ie2) .(Evs.nil))))))))) (rfl:st1 c ++ [AObj.dint [] []]=st2 c) (rfl:AV.tup [.lst (qas 7 c),.lst (qas 4 (cG c)),.int ((c 11).fmod 26),.loc (st1 c).length]=.tup [.lst (qas 7 c),.lst (qas 4 (cG c)),.int ((c 11).fmod 26),.loc 2])) .(As.tuple .(AsL.cons .(Ic4 3 (hp:=(by assumption))) .(AsL.cons .(Ia4 4 (hp:=(by assumption))) .(AsL.cons .(Ic4 5) .(AsL.cons .(Ia4 6) .(AsL.nil)))))))
  exact h
include F in
theorem qti (hd:Calls W Y k fr (st2 c) (.glob (.ref A18)) [.lst (qas 7 c),.lst (qd1 7 c)] [] [] (.tup [.loc 3,.bool true]) σ):Ex ⟨W,Y,nm22.1,cd⟩ k fr (lm3 c) (st2 c) (nth bd22.1 4) .next (lm4 c) σ:=by
  have hkr:=(F.f18 .none .none).kept;have hz:(qd1 12 c).length<=Ai:=by exact (by decide:12<=Ai)
  have e7:AV.lst (qbq (qd1 12 c) none (some 7) none)=.lst (qd1 7 c):=by kernel_rfl
  have h:Ex ⟨W,Y,nm22.1,cd⟩ k fr (lm3 c) (st2 c) (nth bd22.1 4) .next (((lm3 c).set 7 (some (.loc 3))).set 8 (some (.bool true))) σ:=by
    show Ex _ _ _ _ _ (.Assign _ _ _) _ _ _;exact .(Ia5 .(Ev.call .(Iac 28 F.g_law_document) (hkr) (Evs.cons .(Iad 3) .((Evs.cons .(Iag .(Iaz .(Ia0 1) EvO.none (Iao .(Ia1)) EvO.none .(Lv.fz) (by simp) (by assumption)) e7) .(Evs.nil)))) EvK.nil (hd)) .(As.tuple .(AsL.cons .(Ia4 7) .(AsL.cons .(Ia4 8) .(AsL.nil)))))
  exact h
include F in
theorem qth (hd:Calls W Y k fr σ (.glob (.ref A18)) [.lst (qas 4 (cG c)),.lst (qd1 4 (cG c))] [] [] (.tup [.loc pn,.bool true]) z'):Ex ⟨W,Y,nm22.1,cd⟩ k fr (lm4 c) σ (nth bd22.1 5) .next (lm5 c pn) z':=by
  have hkr:=(F.f18 .none .none).kept;have hz:(qd1 12 c).length<=Ai:=by exact (by decide:12<=Ai)
  have e4:AV.lst (qbq (qd1 12 c) (some 7) (some 11) none)=.lst (qd1 4 (cG c)):=by kernel_rfl
  have h:Ex ⟨W,Y,nm22.1,cd⟩ k fr (lm4 c) σ (nth bd22.1 5) .next (((lm4 c).set 9 (some (.loc pn))).set 10 (some (.bool true))) z':=by
    show Ex _ _ _ _ _ (.Assign _ _ _) _ _ _;exact .(Ia5 .(Ev.call .(Iac 28 F.g_law_document) (hkr) (Evs.cons .(Ia0 4) .((Evs.cons .(Iag .(Iaz .(Ia0 1) (Iao .(Ia1)) (Iao .(Ia1)) EvO.none .(Lv.fz) (by simp) (by assumption)) e4) .(Evs.nil)))) EvK.nil (hd)) .(As.tuple .(AsL.cons .(Ia4 9) .(AsL.cons .(Ia4 10) .(AsL.nil)))))
  exact h
include F in
theorem qtg:Ex ⟨W,Y,nm22.1,cd⟩ k fr (lm5 c pn) σ (nth bd22.1 6) .next (lm5 c pn) σ:=by
  have hd:((!true)||(!true))=false:=rfl;show Ex _ _ _ _ _ (.If _ _ _ _) _ _ _;exact .(Ia7 (c:=false) .(Iaa .(Ibb .(Ibe .(Ick .(Tr.val .(Ia0 8) (Tv.bool))) (fun _=>.(Ibj .(Ick .(Tr.val .(Ia0 10) (Tv.bool))))) (fun _=>rfl))) hd) (fun h=>nomatch h) (fun _=>.(Exs.nil)))
include F in
theorem qtf (D:DocS 7 c 3 σ)(P:DocS 4 (cG c) pn σ)(hp:2<pn)(hf:σ[2]?=some (.dint [] []))(hY:Y 2):Ex ⟨W,Y,nm22.1,cd⟩ (k+7) fr (lm5 c pn) σ (nth bd22.1 7) .next (lm7 c) (σ.set 2 (foO c (cG c) (qba (cG c) 4 0))):=by
  have hkr:=(F.f20 .none .none .none rfl rfl rfl).kept;have hz:(qak pn (Ac 4)).length<=Ai:=by exact (by decide:4<=Ai)
  have hrow:=P.row;have h0:=qkm (n:=pn) (N:=4) (s:=0) (by decide);have hc:=qlt F (f:=c) (g:=cG c) (fd:=2) (n:=3) (pn:=pn) (by decide) hp 4 0 Y k fr σ [] (by decide) (by decide) D P hf hY nofun (by decide);rw[CX] at hc;have h:Ex ⟨W,Y,nm22.1,cd⟩ (k+7) fr (lm5 c pn) σ (nth bd22.1 7) .next (lm5 c pn) (σ.set 2 (foO c (cG c) (qba (cG c) 4 0))):=by
    show Ex _ _ _ _ _ (.Expr _ _) _ _ _;exact .(Ex.expr .(Ev.call .(Iac 29 F.g_law_lies) (hkr) (Evs.cons .(Ia0 7) .((Evs.cons .(Ia9 .(Ia0 9) .(Ia1) (by exact Lv.loc hrow) (by exact qbc rfl h0) (by exact hz)) .((Evs.cons .(Ia0 6) .(Evs.nil)))))) EvK.nil (hc)))
  exact Ex.post h (by with_unfolding_all exact Ia6 8796093021957)
end
end
section
noncomputable def lm8 (c:Nat->Int):List (Option AV):=[none,some (.lst (qd1 12 c)),none,some (.lst (qas 7 c)),some (.lst (qas 4 (cG c))),some (.int ((c 11).fmod 26)),some (.loc 2),some (.loc 3),none,none,none,none,none,none,none,none,none,none,none,none,none,none,none,some (.lst (qa0 ((Ac 7).map (qa6 7 c)))),none,none,none,none,none,none,none,none,none,none,none,none,none,none,none,none,none,none,none]
noncomputable abbrev fE (c:Nat->Int) (p q:Nat):Bool:=((0+((q:Nat):Int)*1==0+((p:Nat):Int)*1))||(AE ((amI c q).fdiv (2 ^ (0+((p:Nat):Int)*1).toNat)) 1==1)
theorem qlq (q:Nat):(0:Int)+(q:Nat)*1=(q:Nat):=by simp
theorem qv3 (c:Nat->Int)(p q:Nat):fE c p q=(q==p||anN c p q):=by
  show (_||_)=_;rw[qlq,qlq,qvd,qj8,qef,ql9]
theorem qqf {f:Nat->Int}(h:q<N):(qas N f)[q]?=some (qdz f q):=by rw[Aj,Ba h];rfl
section
variable (F:Fac W) {c:Nat->Int}
include F in
theorem qte:Ex ⟨W,Y,nm22.1,cd⟩ k fr (lm7 c) σ (nth bd22.1 8) .next (lm8 c) σ:=by
  have hz:(qas 7 c).length<=Ai:=by exact (by decide:7<=Ai)
  have h7:∀x∈Ac 7,x<7:=fun x h=>Bi.mp h
  have hx:∀x∈Ac 7,((((Ac 7).filter fun q=>fE c x q).map fun q:Nat=>(0:Int)+(q:Nat)*1))=(qoy 7 c x).map fun q=>((q:Nat):Int):=fun x h=>by
    rw[qoy,Bx fun q _=>qv3 c x q];exact AN fun q _=>qlq q
  have hM:∀x∈Ac 7,((qa6 7 c x:Nat):Int)∈(((Ac 7).filter fun q=>fE c x q).map fun q:Nat=>(0:Int)+(q:Nat)*1):=fun x h=>by
    rw[hx x h];exact List.mem_map_of_mem (qgb (h7 x h)).1
  have hle:∀x∈Ac 7,∀a∈(((Ac 7).filter fun q=>fE c x q).map fun q:Nat=>(0:Int)+(q:Nat)*1),a<=((qa6 7 c x:Nat):Int):=fun x h a ha=>by
    rw[hx x h] at ha;obtain ⟨q,hq,rfl⟩:=Br.mp ha;exact Ei.mpr ((qgb (h7 x h)).2 q hq)
  have hpo:plain (.lst (qas 7 c))=true:=qa3 (fun _=>rfl) _;have hJ:qf2 (qcz (lm7 c) [none,none,none,none,some 3])=true:=by
    show (plain (.lst (qas 7 c))&&true)=true;rw[hpo];rfl
  have hpe:plain (.lst ((Ac 7).map fun p:Nat=>AV.int ((qa6 7 c p:Nat):Int)))=true:=qa3 (fun _=>rfl) _;have hv:AV.lst ((Ac 7).map fun p:Nat=>AV.int ((qa6 7 c p:Nat):Int))=.lst (qa0 ((Ac 7).map (qa6 7 c))):=by rw[qa0,Bv];rfl
  have hs0:∀x:Nat,(0:Int)<=0+(x:Nat)*1:=fun x=>by simp
  refine Ex.post (m2:=(lm7 c).set 23 (some (.lst ((Ac 7).map fun p:Nat=>AV.int ((qa6 7 c p:Nat):Int))))) ?_ (by with_unfolding_all exact Ia6 8796084633349);show Ex _ _ _ _ _ (.Assign _ _ _) _ _ _;exact .(Ibc (i:=23) Uu .(Iak .(ItE.call .(Iah 30 F.b_range) .(Kept.type) (Evs.cons .(Ia1) .(Evs.nil)) .(Iam (by decide))) (Ibm [none,none,none,none,some 3] (by kernel_rfl) (by kernel_rfl) (hJ)) .(CompC.map Uu (Ac 7) ((fun i:Nat=>AV.int (0+(i:Nat)*1))) ((fun p:Nat=>AV.int ((qa6 7 c p:Nat):Int))) _ (fun x hx=>.(Ic4 1)) (fun x hx=>.(Ev.call .(Iah 2 F.b_max) .(Kept.builtin) (Evs.cons .(Iak .(ItE.call .(Iah 3 F.b_range) .(Kept.type) (Evs.cons .(Ia1) .(Evs.nil)) .(Iam (by decide))) (CompIn.of [none,none,some 4,some 1] (by kernel_rfl) (by kernel_rfl)) .(Iaq Uu (Ac 7) ((fun i:Nat=>AV.int (0+(i:Nat)*1))) ((fun q=>fE c x q)) ((fun q:Nat=>AV.int (0+(q:Nat)*1))) _ (fun x1 hx1=>.(Ia4 1)) (fun x1 hx1=>.(Ibb .(Ibe .(Ia3 .(Ia0 1) .(Iad 3) .(Ib2)) (fun _=>.(Ibj .(Ia3 .(Ia2 .(Ia2 .(Iay .(Ia9 .(Iad 2) .(Ia0 1) .(Lv.fz) (by exact qbc (qlq x1) (qqf (h7 x1 hx1))) (by exact hz)) .(Ia1) .(⟨_,rfl,rfl⟩)) .(Iad 3) (Ic6 (hs0 x))) .(Ia1) .(Op2.and)) .(Ia1) .(Ib2)))) (fun _=>rfl)))) (fun x1 hx1 hp=>.(Ia0 1)) .(fun _=>Weak.set Uu))) .(Evs.nil)) EvK.nil ((by exact Idt qnh (hM x hx) (hle x hx))))) .(fun _=>Weak.set Uu))) (by assumption))
end
end
section
theorem qpw {R:α->α->Prop}(irr:∀a,¬R a a)(tr:∀a b c,R a b->R b c->R a c):∀{l l':List α},l.Pairwise R->l'.Pairwise R->(∀x,x∈l↔x∈l')->l=l':=by
  intro l l' h1 h2 h;induction l generalizing l' with
  | nil=>
    cases l' with
    | nil=>rfl
    | cons b t=>exact absurd ((h b).mpr Am) CJ
  | cons a t ih=>
    cases l' with
    | nil=>exact absurd ((h a).mp Am) CJ
    | cons b t'=>
      obtain ⟨a1,a2⟩:=A6.mp h1;obtain ⟨b1,b2⟩:=A6.mp h2;have hab:a=b:=by
        rcases AS.mp ((h a).mp Am) with e | e
        . exact e
        . rcases AS.mp ((h b).mpr Am) with e' | e'
          . exact e'.symm
          . exact absurd (tr _ _ _ (a1 b e') (b1 a e)) (irr a)
      subst hab;rw[ih a2 b2 fun x=>⟨fun hx=>(AS.mp ((h x).mp (Az _ hx))).resolve_left fun e=>absurd (e ▸ a1 x hx) (irr _),fun hx=>(AS.mp ((h x).mpr (Az _ hx))).resolve_left fun e=>absurd (e ▸ b1 x hx) (irr _)⟩]
abbrev qrf (ky:Nat->Int×Int) (a b:Nat):Prop:=(ky a).1<(ky b).1\/((ky a).1=(ky b).1/\(ky a).2<(ky b).2)
theorem qre (ky:Nat->Int×Int)(a b c:Nat)(h1:qrf ky a b)(h2:qrf ky b c):qrf ky a c:=by
  rcases h1 with h1 | ⟨h1,h1'⟩ <;> rcases h2 with h2 | ⟨h2,h2'⟩
  . exact .inl (Ej h1 h2)
  . exact .inl (h2 ▸ h1)
  . exact .inl (h1 ▸ h2)
  . exact .inr ⟨h1.trans h2,Ej h1' h2'⟩
theorem qph (ky:Nat->Int×Int)(a:Nat):¬qrf ky a a:=fun h=>h.elim (DW _) fun q=>DW _ q.2
noncomputable abbrev ltK (ky:Nat->Int×Int) (L:List Nat):Nat->Nat->Bool:=fun i j=>decide (((L.map ky).getD i (0,0)).1<((L.map ky).getD j (0,0)).1\/(((L.map ky).getD i (0,0)).1=((L.map ky).getD j (0,0)).1/\((L.map ky).getD i (0,0)).2<((L.map ky).getD j (0,0)).2))
theorem qum {ky:Nat->Int×Int}(h:i<L.length):(L.map ky).getD i (0,0)=ky (L.getD i 0):=by
  rw[Ae,Ae,Aj,Ad h];rfl
theorem qi4 {ky:Nat->Int×Int}{A:List Nat}(hL:L.Nodup)(hk:∀a∈L,∀b∈L,a≠b->qrf ky a b\/qrf ky b a)(hA:A.Pairwise (qrf ky))(hm:∀x,x∈A↔x∈L):qep (ltK ky L) (qa0 L)=qa0 A:=by
  obtain ⟨q,h1,h2,h3⟩:=qlh (lt:=ltK ky L) SWO.pairs (qa0 L);have hlen:(qa0 L).length=L.length:=Ab ..;rw[hlen] at h1;have hq:∀i∈q,i<L.length:=fun i hi=>Bi.mp (h1.mem_iff.mp hi)
  have hnd:q.Nodup:=h1.nodup_iff.mpr List.nodup_range;have e1:qep (ltK ky L) (qa0 L)=qa0 (q.map fun i=>L.getD i 0):=by
    rw[h3];show _=(q.map fun i=>L.getD i 0).map fun w:Nat=>AV.int ((w:Nat):Int)
    rw[Bv];refine AN fun i hi=>?_
    show (L.map fun x:Nat=>AV.int ((x:Nat):Int)).getD i .none=AV.int ((L.getD i 0:Nat):Int);rw[Ae,Ae,Aj,Ad (hq i hi)];rfl
  rw[e1];refine congrArg _ (qpw (qph ky) (qre ky) ?_ hA fun y=>?_)
  . rw[Fz];refine List.Pairwise.imp_of_mem (R:=fun a b=>Prec (ltK ky L) a b/\a≠b) (fun {a b} ha hb h=>?_) (h2.and hnd);have ka:=hq a ha;have kb:=hq b hb;have ga:L.getD a 0=L[a]:=by rw[Ae,Ad ka];rfl
    have gb:L.getD b 0=L[b]:=by rw[Ae,Ad kb];rfl
    have hne:L.getD a 0≠L.getD b 0:=by
      rw[ga,gb];exact fun e=>h.2 ((List.getElem_inj hL).mp e)
    have hab:=hk (L.getD a 0) (ga ▸ DP ka) (L.getD b 0) (gb ▸ DP kb) hne;rcases h.1 with hl | ⟨hl,_⟩
    . have:=of_decide_eq_true hl;rw[qum ka,qum kb] at this;exact this
    . have:=of_decide_eq_false hl;rw[qum ka,qum kb] at this;exact hab.resolve_right this
  . rw[hm,Br];constructor
    . rintro ⟨i,hi,rfl⟩
      rw[Ae,Ad (hq i hi)];exact DP _
    . intro hy;obtain ⟨i,hi,rfl⟩:=C9.mp hy;exact ⟨i,h1.mem_iff.mpr (Bi.mpr hi),by rw[Ae,Ad hi];rfl⟩
section
variable {f g:Nat->Int}
theorem qeb (h:kk<4)(hr:r<7):qdp f g kk r=true↔Hit (anN g) (anN f) (qa6 4 g) (qb8 g) (qb8 f) 7 kk r:=
  qiq (qf1 4 g) (qf1 7 f) (f:=4) h (fun i _ q2=>qov (qf1 4 g) (qf1 7 f) 4 i (An q2 ((qf1 4 g).top kk h)) (by simp)) hr
noncomputable def plK (f g:Nat->Int) (kk:Nat):List Nat:=(Ac 7).filter fun r=>(qej f g kk 128).testBit r
theorem qha (h:kk<4):r∈plK f g kk↔r<7/\qdp f g kk r=true:=by
  rw[plK,CB,Bi];refine and_congr_right fun hr=>?_
  rw[qeb h hr];exact qqv h
theorem qe5 (f g:Nat->Int)(kk:Nat):(plK f g kk).Nodup/\(plK f g kk).Pairwise (· < ·)/\(∀x∈plK f g kk,x<7)/\(plK f g kk).length<=7:=⟨List.nodup_range.filter _,(El (n:=7)).filter _,fun x hx=>Bi.mp (CB.mp hx).1,Bu _ _⟩
theorem qq9 (h:kk<4){p:Nat->Nat->Bool}:r∈afF 7 p (qdp f g kk) 7↔r∈plK f g kk:=by
  rw[(qgh 7 (Ak _)).2,qha h];exact ⟨fun q=>q.2,fun q=>⟨by simp,q⟩⟩
noncomputable abbrev kyA (f:Nat->Int) (s:Int) (x:Nat):Int×Int:=(((qa6 7 f x:Nat):Int),s*(x:Nat))
theorem qlg (h:kk<4):qep (ltK (kyA f (-1)) (plK f g kk)) (qa0 (plK f g kk))=qa0 (afK f g kk 7):=by
  refine qi4 (qe5 f g kk).1 (fun a _ b _ q=>?_) ((qfa 7 (eD f) (qdp f g kk) (Ak _)).imp fun {a b} q=>?_) fun x=>qq9 h
  . show (((qa6 7 f a:Nat):Int)<(qa6 7 f b:Nat)\/((qa6 7 f a:Nat):Int)=(qa6 7 f b:Nat)/\(-1:Int)*(a:Nat) < -1*(b:Nat))\/(((qa6 7 f b:Nat):Int)<(qa6 7 f a:Nat)\/((qa6 7 f b:Nat):Int)=(qa6 7 f a:Nat)/\(-1:Int)*(b:Nat) < -1*(a:Nat));lia
  . rcases q with q | ⟨q1,q2⟩
    . exact .inl (CF.mpr q)
    . exact .inr ⟨congrArg Int.ofNat q1,by show (-1:Int)*(a:Nat) < -1*(b:Nat);simp_all⟩
theorem qlf (h:kk<4):qep (ltK (kyA f 1) (plK f g kk)) (qa0 (plK f g kk))=qa0 (ahK f g kk 7):=by
  refine qi4 (qe5 f g kk).1 (fun a _ b _ q=>?_) ((qf9 7 (eD f) (qdp f g kk) (Ak _)).imp fun {a b} q=>?_) fun x=>qq9 h
  . show (((qa6 7 f a:Nat):Int)<(qa6 7 f b:Nat)\/((qa6 7 f a:Nat):Int)=(qa6 7 f b:Nat)/\(1:Int)*(a:Nat)<1*(b:Nat))\/(((qa6 7 f b:Nat):Int)<(qa6 7 f a:Nat)\/((qa6 7 f b:Nat):Int)=(qa6 7 f a:Nat)/\(1:Int)*(b:Nat)<1*(a:Nat));lia
  . rcases q with q | ⟨q1,q2⟩
    . exact .inl (CF.mpr q)
    . exact .inr ⟨congrArg Int.ofNat q1,by show (1:Int)*(a:Nat)<1*(b:Nat);simp_all⟩
theorem qs6 (h:kk<4):dk f g kk=(plK f g kk).filter fun r=>((plK f g kk).filter fun q=>anN f r q).isEmpty:=by
  obtain ⟨d1,d2⟩:=qov (tp:=qb8 g) (td:=qb8 f) (qf1 4 g) (qf1 7 f) 4 kk h (by simp);have T:=qf1 7 f;refine qcn d1 ((qe5 f g kk).2.1.filter _) fun x=>(d2 x).trans ?_
  rw[CB,qha h,List.isEmpty_iff,BD];constructor
  . rintro ⟨q1,q2,q3⟩
    refine ⟨⟨q2,(qeb h q2).mpr q1⟩,fun y hy q=>?_⟩;obtain ⟨y1,y2⟩:=(qha h).mp hy;have hlt:=T.lt _ _ q;exact q3 y hlt ((T.ens x y hlt y1).mp q) ((qeb h y1).mp y2)
  . rintro ⟨⟨q1,q2⟩,q3⟩
    refine ⟨(qeb h q1).mp q2,q1,fun y h1 h2 h3=>?_⟩;have hy:=An h2 (T.top x q1);exact q3 y ((qha h).mpr ⟨hy,(qeb h hy).mpr h3⟩) ((T.ens x y h1 hy).mpr h2)
end
end
section
theorem qqy {N:Nat}{f:Nat->Int}:∀(n q:Nat),q<n->0<q->anN f 0 q=true:=by
  intro n;induction n with
  | zero=>intro q h _;exact absurd h (B8 _)
  | succ n ih=>
    intro q h hq;have h1:=qe0 (f:=f) hq;have T:=qf1 (q+1) f;have h2:=T.lt _ _ h1;rcases D9 (qd6 f q) with e | e
    . rw[e] at h1;exact h1
    . exact T.tr _ _ _ (ih _ (by lia) e) h1
theorem qkp {g:Nat->Int}(h:kk<4):kk∈qba g 4 0:=by
  refine qmy (qf1 4 g) 4 0 kk (by decide) (by decide) (AI _) ?_;rcases D9 kk with rfl | q
  . exact AI _
  . exact ((qf1 4 g).ens 0 kk q h).mp (qqy (N:=4) (kk+1) kk (Bp _) q)
theorem qtw {f g:Nat->Int}{x:Nat}:∀{P:List Nat},x∈P->qdq (qg2 P) (P.map (foV f g)) ((x:Nat):Int)=some (foV f g x):=by
  intro P;induction P with
  | nil=>intro h;cases h
  | cons a P ih=>
    intro h;by_cases e:a=x
    . subst e;show Option.map _ (List.find? _ ((((a:Nat):Int)::qg2 P).zip (foV f g a::P.map (foV f g))))=_;rw[A9,List.find?_cons_of_pos (by simp)];rfl
    . have h':x∈P:=(AS.mp h).resolve_left fun q=>e q.symm
      have hi:¬(((a:Nat):Int)=((x:Nat):Int)):=fun q=>e (Int.ofNat_inj.mp q)
      have:=ih h';show Option.map _ (List.find? _ ((((a:Nat):Int)::qg2 P).zip (foV f g a::P.map (foV f g))))=_;rw[A9,List.find?_cons_of_neg (by simpa using hi)];exact this
theorem qn3 (hps:∀p∈ps,p<32):Bt (DN ", " (qaz ps))=true:=by
  refine qr3 (by decide +kernel) _ fun a ha=>?_
  unfold qaz at ha;split at ha
  . rw[AL.mp ha];decide +kernel
  . obtain ⟨p,hp,e⟩:=Br.mp ha;rw[<- e];exact (qd7 ⟨p,hps p hp⟩).2.2
noncomputable def bN (c:Nat->Int):Nat:=((c 11).fmod 26).toNat
theorem qsa (c:Nat->Int):(c 11).fmod 26=(bN c:Nat)/\bN c<=25:=by
  have h1:0<=(c 11).fmod 26:=BX _ (by decide);have h2:(c 11).fmod 26<26:=Dp _ (by decide);unfold bN;lia
noncomputable def plc (c:Nat->Int) (l:List Nat):List Nat:=l.map (bN c + ·)
theorem qn0 {l l':List Int}(h:l.Perm l'):l.sum=l'.sum:=by
  induction h with
  | nil=>rfl
  | cons x _ ih=>rw[Cr,Cr,ih]
  | swap x y l=>simp only[Cr];lia
  | trans _ _ h1 h2=>exact h1.trans h2
theorem qo4 {c:Nat->Int}{l l':List Nat}(h:l.Perm l'):(l.map fun w:Nat=>(2:Int) ^ ((c 11).fmod 26+(w:Nat)).toNat).sum=qa8 (plc c l'):=by
  have e:(plc c l').map (fun p=>(2:Int) ^ p)=l'.map fun w:Nat=>(2:Int) ^ ((c 11).fmod 26+(w:Nat)).toNat:=by
    unfold plc;rw[Bv];refine AN fun w hw=>?_
    have hb:=(qsa c).1;show (2:Int) ^ (bN c+w)=_;rw[hb];congr 1
  unfold qa8;rw[e];exact qn0 (h.map _)
theorem qsw (c g:Nat->Int)(kk:Nat):(∀p∈plc c (plK c g kk),p<32)/\(plc c (plK c g kk)).Pairwise (· < ·)/\(plc c (plK c g kk)).length<=7:=by
  have hb:=(qsa c).2;obtain ⟨h1,h2,h3,h4⟩:=qe5 c g kk;refine ⟨fun p hp=>?_,?_,?_⟩
  . obtain ⟨w,hw,e⟩:=Br.mp hp;have:=h3 w hw;lia
  . unfold plc;rw[Fz];exact h2.imp fun h=>by simp_all
  . unfold plc;rw[Ab];exact h4
theorem qcp (l:List Nat):plain (.lst (qa0 l))=true:=qa3 (fun _=>rfl) l
theorem qsd {f g:Nat->Int}(h:kk<4):(afK f g kk 7).Perm (plK f g kk):=(List.perm_ext_iff_of_nodup (qgh 7 (Ak _)).1 (qe5 f g kk).1).mpr fun _=>qq9 h
noncomputable def lmT (c:Nat->Int) (kk:Nat):List (Option AV):=[none,some (.lst (qd1 12 c)),none,some (.lst (qas 7 c)),some (.lst (qas 4 (cG c))),some (.int ((c 11).fmod 26)),some (.loc 2),some (.loc 3),none,none,none,some (.int ((kk:Nat):Int)),some (.int ((qej c (cG c) kk 128:Nat):Int)),none,none,none,none,none,none,none,none,none,none,some (.lst (qa0 ((Ac 7).map (qa6 7 c)))),none,none,none,none,none,none,none,none,none,none,none,none,none,none,none,none,none,none,none]
noncomputable abbrev lmP (c:Nat->Int) (kk:Nat):List (Option AV):=(lmT c kk).set 13 (some (.lst (qa0 (plK c (cG c) kk))))
noncomputable abbrev lmD (c:Nat->Int) (kk:Nat):List (Option AV):=(lmP c kk).set 14 (some (.lst (qa0 (dk c (cG c) kk))))
noncomputable def ta229:PSigma (fun l=>(qbl (nth bd22.1 9))=l):=⟨_,by conv=>lhs;whnf⟩
noncomputable def bo229:PSigma (fun l=>(qbp (nth bd22.1 9))=l):=⟨_,by conv=>lhs;whnf⟩
section
variable (F:Fac W) {c:Nat->Int}
include F in
theorem qsk:Ex ⟨W,Y,nm22.1,cd⟩ k fr (lmT c kk) σ (nth bo229.1 0) .next (lmP c kk) σ:=by
  have hs0:∀x:Nat,(0:Int)<=0+(x:Nat)*1:=fun x=>by simp
  have hv:AV.lst (((Ac 7).filter fun r:Nat=>AE (((qej c (cG c) kk 128:Nat):Int).fdiv (2 ^ (0+((r:Nat):Int)*1).toNat)) 1==1).map fun r:Nat=>AV.int (0+(r:Nat)*1))=.lst (qa0 (plK c (cG c) kk)):=by
    rw[plK,Bx fun r _=>(by rw[qlq,qef]:_=(qej c (cG c) kk 128).testBit r)];exact congrArg AV.lst (AN fun r _=>congrArg AV.int (qlq r))
  have hp:=qcp (plK c (cG c) kk);show Ex _ _ _ _ _ (.Assign _ _ _) _ _ _;exact .(Ibc (i:=13) Uu .(Iag .(Iak .(ItE.call .(Iah 30 F.b_range) .(Kept.type) (Evs.cons .(Ia1) .(Evs.nil)) .(Iam (by decide))) (CompIn.of [none,none,some 12] (by kernel_rfl) (by kernel_rfl)) .(Iaq Uu (Ac 7) ((fun i:Nat=>AV.int (0+(i:Nat)*1))) ((fun r:Nat=>AE (((qej c (cG c) kk 128:Nat):Int).fdiv (2 ^ (0+((r:Nat):Int)*1).toNat)) 1==1)) ((fun r:Nat=>AV.int (0+(r:Nat)*1))) _ (fun x hx=>.(Ia4 1)) (fun x hx=>.(Ia3 .(Ia2 .(Ia2 .(Iad 2) .(Ia0 1) (Ic6 (hs0 x))) .(Ia1) .(Op2.and)) .(Ia1) .(Ib2))) (fun x hx hp=>.(Ia0 1)) .(fun _=>Weak.set Uu))) (hv)) (by assumption))
include F in
theorem qsj (h4:kk<4)(hf:σ[2]?=some (foO c (cG c) (qba (cG c) 4 0))):Ex ⟨W,Y,nm22.1,cd⟩ (k+2) fr (lmP c kk) σ (nth bo229.1 1) .next (lmP c kk) σ:=by
  have hat:=qtw (f:=c) (g:=cG c) (qkp (g:=cG c) h4);have hb:=qsa c;have hpw:∀w:Nat,w<7->(0:Int)<=(c 11).fmod 26+(w:Nat)/\(c 11).fmod 26+(w:Nat)<=1000000:=fun w hw=>by omega
  have ha7:∀x∈afK c (cG c) kk 7,x<7:=fun x hx=>(qe5 c (cG c) kk).2.2.1 x ((qq9 h4).mp hx)
  have hza:(afK c (cG c) kk 7).length<=2 ^ 20:=Af (qe4 7 _ _ 7) (by decide);have hzp:(plK c (cG c) kk).length<=2 ^ 20:=Af (qe5 c (cG c) kk).2.2.2 (by decide);have h0:([AV.lst (qa0 (afK c (cG c) kk 7)),.lst (qa0 (ahK c (cG c) kk 7)),.lst (qa0 (dk c (cG c) kk))])[0]?=some (.lst (qa0 (afK c (cG c) kk 7))):=rfl;have hz3:([AV.lst (qa0 (afK c (cG c) kk 7)),.lst (qa0 (ahK c (cG c) kk 7)),.lst (qa0 (dk c (cG c) kk))]).length<=Ai:=by exact (by decide:3<=Ai)
  have hfl:AV.int (((afK c (cG c) kk 7).map fun w:Nat=>(2:Int) ^ ((c 11).fmod 26+(w:Nat)).toNat).sum)=.int (qa8 (plc c (plK c (cG c) kk))):=by rw[qo4 (qsd h4)]
  have hpl:AV.lst ((plK c (cG c) kk).map fun w:Nat=>AV.int ((c 11).fmod 26+(w:Nat)))=.lst ((plc c (plK c (cG c) kk)).map fun p=>.int (p:Nat)):=by
    unfold plc;rw[Bv];refine congrArg AV.lst (AN fun w _=>?_);show AV.int ((c 11).fmod 26+(w:Nat))=.int ((bN c+w:Nat):Int);congr 1;simp_all
  obtain ⟨p1,p2,p3⟩:=qsw c (cG c) kk;have hkf:=(F.f7 .none).kept;have hkw:=(F.f15 .none rfl).kept;have cf:Calls W Y (k+2) fr σ (.glob (.ref A7)) [.int (qa8 (plc c (plK c (cG c) kk)))] [] [] (.str (DN ", " (qaz (plc c (plK c (cG c) kk))))) σ:=qjy F (k:=k+1) p1 p2 (by lia);have cw:Calls W Y (k+2) fr σ (.glob (.ref A15)) [.lst ((plc c (plK c (cG c) kk)).map fun p=>.int (p:Nat))] [] [] (.str (DN ", " (qaz (plc c (plK c (cG c) kk))))) σ:=qjb F (k:=k+1) p1 (by lia);have hne:false=true↔AV.str (DN ", " (qaz (plc c (plK c (cG c) kk))))≠.str (DN ", " (qaz (plc c (plK c (cG c) kk)))):=by simp
  have hD:D1 64 (AV.str (DN ", " (qaz (plc c (plK c (cG c) kk))))):=D1.str (qn3 p1);show Ex _ _ _ _ _ (.If _ _ _ _) _ _ _;exact .(Ia7 (c:=false) .(Iaa .(Ia3 .(Ev.call .(Iac 32 F.g_pretty_flags) (hkf) (Evs.cons .(Iag .(Ev.call .(Iah 33 F.b_sum) .(Kept.builtin) (Evs.cons .(Iak .(ItE.list .(Ia9 .(Idp .(Ia0 6) .(Ia0 11) hf hat) .(Ia1) .(Lv.fz) (by exact qbc rfl h0) (by exact hz3)) (Lv.fz)) (CompIn.of [none,none,some 5] (by kernel_rfl) (by kernel_rfl)) .(CompC.map Uu (afK c (cG c) kk 7) ((fun w:Nat=>AV.int w)) ((fun w:Nat=>AV.int ((2:Int) ^ ((c 11).fmod 26+(w:Nat)).toNat))) _ (fun x hx=>.(Ia4 1)) (fun x hx=>.(Ia2 .(Ia1) .(Ia2 .(Iad 2) .(Ia0 1) .(Iai)) (Ic7 (hpw x (ha7 x hx)).1 (hpw x (ha7 x hx)).2 (by decide)))) .(fun _=>Weak.set Uu) (hp:=by with_unfolding_all exact qae (fun _=>rfl) _) (hz:=by exact hza))) .(Evs.nil)) EvK.nil ((by exact Calls.sum qnh))) (hfl)) .(Evs.nil)) EvK.nil (cf)) .(Ev.call .(Iac 34 F.g_law_words) (hkw) (Evs.cons .(Iag .(Iak .(ItE.list .(Iad 13) .(Lv.fz)) (CompIn.of [none,none,some 5] (by kernel_rfl) (by kernel_rfl)) .(CompC.map Uu (plK c (cG c) kk) ((fun w:Nat=>AV.int w)) ((fun w:Nat=>AV.int ((c 11).fmod 26+(w:Nat)))) _ (fun x hx=>.(Ia4 1)) (fun x hx=>.(Ia2 .(Iad 2) .(Ia0 1) .(Iai))) .(fun _=>Weak.set Uu) (hp:=by with_unfolding_all exact qae (fun _=>rfl) _) (hz:=by exact hzp))) (hpl)) .(Evs.nil)) EvK.nil (cw)) (Ics (c:=false) (Dv.of hD) (Dv.of hD) hne)) rfl) (fun h=>nomatch h) (fun _=>.(Exs.nil)))
end
end
section
noncomputable def qvj:Expr->Expr
  | .Compare _ _ (r::_) _=>r
  | e=>e
noncomputable def la22a:PSigma (fun l=>qto (kwE (qs4 (qvj (qjd (nth bo229.1 3))) 0) 0)=l):=⟨_,by conv=>lhs;whnf⟩
noncomputable def la22b:PSigma (fun l=>qto (kwE (qs4 (qvj (qjd (nth bo229.1 3))) 1) 0)=l):=⟨_,by conv=>lhs;whnf⟩
noncomputable abbrev prA (p:Int×Int):AV:=.tup [.int p.1,.int p.2]
noncomputable abbrev enA (c:Nat->Int):AV:=.lst (qa0 ((Ac 7).map (qa6 7 c)))
section
variable {c:Nat->Int}
theorem qu2 {x:Nat}(h:x<7):(qa0 ((Ac 7).map (qa6 7 c)))[x]?=some (.int ((qa6 7 c x:Nat):Int)):=by rw[qa0,Bv,Aj,Ba h];rfl
theorem qu1:(qa0 ((Ac 7).map (qa6 7 c))).length<=Ai:=by rw[qa0,Ab,Ab,AM,Ay];decide
theorem qux {x:Nat}(h:x<7)(k:Nat)(fr:List Env)(Y:Nat->Prop):Calls W Y (k+1) fr σ (.clo la22a.1 ["ends"] [enA c]) [.int (x:Nat)] [] [] (prA (kyA c (-1) x)) σ:=by
  have hpe:plain (enA c)=true:=qcp _;have hpc:plains [enA c]=true:=by show (plain (enA c)&&true)=true;rw[hpe];rfl
  refine Icj (m0:=qcz ([enA c].map some) [none,some 0]) (m1:=[some (.int (x:Nat)),some (enA c)]) (xs:=["one"]) (CloIn.of [none,some 0] rfl rfl rfl (by kernel_rfl) (by kernel_rfl) hpc) (fun fd h1 h2 h3 us hl=>?_) (Binds.cons (i:=0) rfl (.inl rfl) (.inl rfl) .nil) (fun cd env=>?_) (Ak _) rfl
  . match us,hl with
    | [u],_=>
      cases fd
      simp only at h1 h2 h3;subst h1 h2 h3;rfl
  . have e1:AV.tup [.int ((qa6 7 c x:Nat):Int),.int (-((x:Nat):Int))]=prA (kyA c (-1) x):=by
      show _=AV.tup [.int ((qa6 7 c x:Nat):Int),.int (-1*((x:Nat):Int))];rw[Int.neg_one_mul]
    have hx:=qu2 (c:=c) h;have hz:=qu1 (c:=c);show Ev _ _ _ _ _ (.Tuple _ _ _) _ _;with_reducible exact Iag .(Ev.tuple (Evs.cons .(Ia9 .(Iad 1) .(Ia0 0) .(Lv.fz) (by exact qbc rfl hx) (by exact hz)) .((Evs.cons .(Ic3 .(Ia0 0)) .(Evs.nil))))) e1
theorem quw {x:Nat}(h:x<7)(k:Nat)(fr:List Env)(Y:Nat->Prop):Calls W Y (k+1) fr σ (.clo la22b.1 ["ends"] [enA c]) [.int (x:Nat)] [] [] (prA (kyA c 1 x)) σ:=by
  have hpe:plain (enA c)=true:=qcp _;have hpc:plains [enA c]=true:=by show (plain (enA c)&&true)=true;rw[hpe];rfl
  refine Icj (m0:=qcz ([enA c].map some) [none,some 0]) (m1:=[some (.int (x:Nat)),some (enA c)]) (xs:=["one"]) (CloIn.of [none,some 0] rfl rfl rfl (by kernel_rfl) (by kernel_rfl) hpc) (fun fd h1 h2 h3 us hl=>?_) (Binds.cons (i:=0) rfl (.inl rfl) (.inl rfl) .nil) (fun cd env=>?_) (Ak _) rfl
  . match us,hl with
    | [u],_=>
      cases fd
      simp only at h1 h2 h3;subst h1 h2 h3;rfl
  . have e1:AV.tup [.int ((qa6 7 c x:Nat):Int),.int (((x:Nat):Int))]=prA (kyA c 1 x):=by
      show _=AV.tup [.int ((qa6 7 c x:Nat):Int),.int (1*((x:Nat):Int))];rw[Int.one_mul]
    have hx:=qu2 (c:=c) h;have hz:=qu1 (c:=c);show Ev _ _ _ _ _ (.Tuple _ _ _) _ _;with_reducible exact Iag .(Ev.tuple (Evs.cons .(Ia9 .(Iad 1) .(Ia0 0) .(Lv.fz) (by exact qbc rfl hx) (by exact hz)) .((Evs.cons .(Ia0 0) .(Evs.nil))))) e1
end
theorem qp9 {x:AV}(h:(qa0 L)[i]?=some x):∃y,L[i]?=some y/\x=.int ((y:Nat):Int):=by
  rw[Aj,Option.map_eq_some_iff] at h;obtain ⟨y,h1,h2⟩:=h;exact ⟨y,h1,h2.symm⟩
section
variable (F:Fac W) {c:Nat->Int}
theorem qmm {f:AV}{s:Int}(hf:∀(g:Addr->Own) (h:Heap) (u:Value),RV W g h f u->∃q,u=.ref q)(h7:∀x∈L,x<7)(hz:L.length<=7)(hk:∀x,x<7->Calls W noY (k+1) fr σ f [.int ((x:Nat):Int)] [] [] (prA (kyA c s x)) σ):Calls W Y (k+3) fr σ (.glob (.builtin "sorted")) [.lst (qa0 L)] ["key"] [f] (.lst (qep (ltK (kyA c s) L) (qa0 L))) σ:=
  Ico (W:=W) (Y:=Y) (k:=k+1) (fr:=fr) (σ:=σ) (f:=f) (v:=.lst (qa0 L)) (l:=qa0 L) (keys:=qgp (L.map (kyA c s))) (lt:=ltK (kyA c s) L) (kx:="key") rfl hf Lv.fz (by rw[qa0,Ab];lia) (by rw[qgp,qa0,Ab,Ab,Ab])
    (fun i x y hx hy=>by
      obtain ⟨p,hp,e⟩:=qp9 hx;rw[qgp,Aj,Aj,hp] at hy;rw[e,<- Sj hy];exact hk p (h7 p (Aw hp))) (qae (fun _=>rfl) _) (qae (fun _=>rfl) _) KeyOk.pairs SWO.pairs
include F in
theorem qsi (h4:kk<4):Ex ⟨W,Y,nm22.1,cd⟩ k fr (lmP c kk) σ (nth bo229.1 2) .next (lmD c kk) σ:=by
  obtain ⟨p1,p2,p3,p4⟩:=qe5 c (cG c) kk;have hz:=p4;have hzp:(plK c (cG c) kk).length<=2 ^ 20:=Af p4 (by decide);have hzo:(qas 7 c).length<=Ai:=by exact (by decide:7<=Ai)
  have hs0:∀x:Nat,(0:Int)<=(x:Nat):=fun x=>Bh x
  have hin:∀r:Nat,((plK c (cG c) kk).filter fun q:Nat=>AE ((amI c q).fdiv (2 ^ ((r:Nat):Int).toNat)) 1==1)=(plK c (cG c) kk).filter fun q=>anN c r q:=fun r=>Bx fun q _=>by rw[qj8,qef,ql9]
  have hv:AV.lst (((plK c (cG c) kk).filter fun r:Nat=>((plK c (cG c) kk).filter fun q:Nat=>AE ((amI c q).fdiv (2 ^ ((r:Nat):Int).toNat)) 1==1).isEmpty).map fun r:Nat=>AV.int (r:Nat))=.lst (qa0 (dk c (cG c) kk)):=by
    rw[qs6 h4,Bx fun r _=>(by rw[hin]:_=((plK c (cG c) kk).filter fun q=>anN c r q).isEmpty)]
  have hq:∀L:List Nat,L.isEmpty=true↔AV.lst (L.map fun q:Nat=>AV.int (q:Nat))=.lst []:=fun L=>by
    rw[List.isEmpty_iff];exact ⟨fun h=>by rw[h];rfl,fun h=>E6.mp (AV.lst.inj h)⟩
  have hD:∀L:List Nat,D1 64 (AV.lst (L.map fun q:Nat=>AV.int (q:Nat))):=fun L=>D1.lst (d:=63) fun _ _=>D1.int
  have hpo:plain (.lst (qas 7 c))=true:=qa3 (fun _=>rfl) _;have hpp:=qcp (plK c (cG c) kk);have hJ:qf2 (qcz (lmP c kk) [none,none,some 3,some 13])=true:=by
    show (plain (.lst (qas 7 c))&&(plain (.lst (qa0 (plK c (cG c) kk)))&&true))=true;rw[hpo,hpp];rfl
  show Ex _ _ _ _ _ _ _ ((lmP c kk).set 14 (some (.lst (qa0 (dk c (cG c) kk))))) _;rw[<- hv];show Ex _ _ _ _ _ (.Assign _ _ _) _ _ _;exact .(Ib8 (i:=14) Uu .(ItE.list .(Iad 13) .(Lv.fz)) (Ibm [none,none,some 3,some 13] (by kernel_rfl) (by kernel_rfl) (hJ)) .(Iaq Uu (plK c (cG c) kk) ((fun w:Nat=>AV.int w)) ((fun r:Nat=>((plK c (cG c) kk).filter fun q:Nat=>AE ((amI c q).fdiv (2 ^ ((r:Nat):Int).toNat)) 1==1).isEmpty)) ((fun w:Nat=>AV.int w)) _ (fun x hx=>.(Ic4 1)) (fun x hx=>.(Ia3 .(Iak .(ItE.list .(Iad 3) .(Lv.fz)) (CompIn.of [none,none,some 2,some 1] (by kernel_rfl) (by kernel_rfl)) .(Iaq Uu (plK c (cG c) kk) ((fun w:Nat=>AV.int w)) ((fun q:Nat=>AE ((amI c q).fdiv (2 ^ ((x:Nat):Int).toNat)) 1==1)) ((fun w:Nat=>AV.int w)) _ (fun x1 hx1=>.(Ia4 1)) (fun x1 hx1=>.(Ia3 .(Ia2 .(Ia2 .(Iay .(Ia9 .(Iad 2) .(Ia0 1) .(Lv.fz) (by exact qbc rfl (qqf (p3 x1 hx1))) (by exact hzo)) .(Ia1) .(⟨_,rfl,rfl⟩)) .(Iad 3) (Ic6 (hs0 x))) .(Ia1) .(Op2.and)) .(Ia1) .(Ib2))) (fun x1 hx1 hp=>.(Ia0 1)) .(fun _=>Weak.set Uu) (hp:=by with_unfolding_all assumption) (hz:=by exact hzp))) .(Ev.list Evs.nil) (Ibo (Dv.of (hD _)) (Dv.of D1.nil) (hq _)))) (fun x hx hp=>.(Iad 1)) .(fun _=>Weak.set Uu) (hp:=by with_unfolding_all assumption) (hz:=by exact hzp)) .(qae (fun _=>Uu) _))
include F in
theorem qsh (hK:qp0 W cd)(h4:kk<4)(hf:σ[2]?=some (foO c (cG c) (qba (cG c) 4 0))):Ex ⟨W,Y,nm22.1,cd⟩ (k+3) fr (lmD c kk) σ (nth bo229.1 3) .next (lmD c kk) σ:=by
  obtain ⟨lc,lP,hLam⟩:=hK;obtain ⟨p1,p2,p3,p4⟩:=qe5 c (cG c) kk;have hat:=qtw (f:=c) (g:=cG c) (qkp (g:=cG c) h4);have hr:∀(l:Lam) (ns:List Str) (cs:List AV) (g:Addr->Own) (h:Heap) (u:Value),RV W g h (.clo l ns cs) u->∃q,u=.ref q:=fun l ns cs g h u r=>by obtain ⟨a,fd,vs,e,_⟩:=r;exact ⟨a,e⟩
  have c1:=qmm (W:=W) (Y:=Y) (k:=k) (fr:=fr) (σ:=σ) (hr _ _ _) p3 p4 fun x h=>qux (c:=c) h k fr noY
  have c2:=qmm (W:=W) (Y:=Y) (k:=k) (fr:=fr) (σ:=σ) (hr _ _ _) p3 p4 fun x h=>quw (c:=c) h k fr noY
  rw[qlg h4] at c1;rw[qlf h4] at c2;have hne:false=true↔foV c (cG c) kk≠foV c (cG c) kk:=by simp
  have hD:D1 64 (foV c (cG c) kk):=D1.lst (d:=63) (l:=[afK c (cG c) kk 7,ahK c (cG c) kk 7,dk c (cG c) kk]) (f:=fun l=>.lst (qa0 l)) fun _ _=>D1.lst (d:=62) fun _ _=>D1.int
  show Ex _ _ _ _ _ (.If _ _ _ _) _ _ _;exact .(Ia7 (c:=false) .(Iaa .(Ia3 .(Idp .(Ia0 6) .(Ia0 11) hf hat) .(Ev.list (Evs.cons .(Ev.call .(Iah 35 F.b_sorted) .(Kept.builtin) (Evs.cons .(Iad 13) .(Evs.nil)) (EvK.cons .((Ie6 (ns:=["ends"]) (caps:=[enA c]) (hLam _ _) (LamCap.of [(1,23)] (by kernel_rfl) Uu (by kernel_rfl)))) .(EvK.nil)) ((by with_unfolding_all exact c1))) .((Evs.cons .(Ev.call .(Iah 35 F.b_sorted) .(Kept.builtin) (Evs.cons .(Iad 13) .(Evs.nil)) (EvK.cons .((Ie6 (ns:=["ends"]) (caps:=[enA c]) (hLam _ _) (LamCap.of [(1,23)] (by kernel_rfl) Uu (by kernel_rfl)))) .(EvK.nil)) ((by with_unfolding_all exact c2))) .((Evs.cons .(Ia0 14) .(Evs.nil))))))) (Ics (c:=false) (Dv.of hD) (Dv.of hD) hne)) rfl) (fun h=>nomatch h) (fun _=>.(Exs.nil)))
end
end
section
theorem qqu {f g:Nat->Int}{m t:Nat}(h:t<4):(qd4 f g m)[t]?=some (.int ((qej f g t m:Nat):Int)):=by rw[Aj,Ba h];rfl
noncomputable def qmb (c:Nat->Int):Int:=(c 4).fmod 4
noncomputable def qor (c:Nat->Int):Int:=7 - (c 9).fmod 4
theorem qs3 (c:Nat->Int):∃f b:Nat,qmb c=f/\qor c=b/\f<=b/\b<=7:=by
  have h1:0<=qmb c:=BX _ (by decide);have h2:qmb c<4:=Dp _ (by decide);have h3:0<=(c 9).fmod 4:=BX _ (by decide);have h4:(c 9).fmod 4<4:=Dp _ (by decide);have h5:qor c=7 - (c 9).fmod 4:=rfl;refine ⟨(qmb c).toNat,(qor c).toNat,?_,?_,?_,?_⟩ <;> grind
noncomputable def qkw (c:Nat->Int) (n:Nat):List (Option AV):=[none,none,none,none,none,none,none,some (.loc 3),none,none,none,none,none,none,none,some (.loc n),some (.int (qmb c)),some (.int (qor c)),none,none,none,none,none,some (.lst (qa0 ((Ac 7).map (qa6 7 c)))),none,none,none,none,none,none,none,none,none,none,none,none,none,none,none,none,none,none,none]
section
variable (F:Fac W) {c:Nat->Int}
include F in
theorem qpi (hK:qp0 W cd)(h4:kk<4)(hf:σ[2]?=some (foO c (cG c) (qba (cG c) 4 0))):Exs ⟨W,Y,nm22.1,cd⟩ (k+3) fr (lmT c kk) σ bo229.1 .next (lm8 c) σ:=by
  have e:=Exs.cons (qsk F (Y:=Y) (cd:=cd) (k:=k+3) (fr:=fr) (σ:=σ) (c:=c) (kk:=kk)) (Exs.cons (qsj F (k:=k+1) h4 hf) (Exs.cons (qsi F h4) (Exs.cons (qsh F hK h4 hf) Exs.nil)));exact Exs.post e (by with_unfolding_all exact Ia6 8796084633349)
include F in
theorem qpj (hK:qp0 W cd)(hf:σ[2]?=some (foO c (cG c) (qba (cG c) 4 0))):∀(j t:Nat),t+j=4->
    ForC ⟨W,Y,nm22.1,cd⟩ (k+3) fr ta229.1 bo229.1 [] (.enum (.lst (qd4 c (cG c) 128)) (qd4 c (cG c) 128)) t (lm8 c) σ .next (lm8 c) σ:=by
  intro j;induction j with
  | zero=>intro t ht;obtain rfl:t=4:=ht;exact ForC.done Lv.fz rfl Exs.nil
  | succ j ih=>
    intro t ht;have h4:t<4:=by lia
    refine ForC.next (m1:=((lm8 c).set 11 (some (.int ((t:Nat):Int)))).set 12 (some (.int ((qej c (cG c) t 128:Nat):Int)))) (z1:=σ) (v:=.tup [.int ((t:Nat):Int),.int ((qej c (cG c) t 128:Nat):Int)]) Lv.fz (qa3 (fun _=>rfl) _) ?_ (fun _=>⟨_,_,_,rfl⟩) ?_ (qpi F hK h4 hf) (ih (t+1) (by lia))
    . have e:(qd4 c (cG c) 128).zipIdx[t]?=some (.int ((qej c (cG c) t 128:Nat):Int),t):=by
        rw[DK,qqu h4];simp
      simp only[AIt.items,Aj,e];rfl
    . show As _ _ _ _ _ (.Tuple _ _ _) _ _ _;exact .(As.tuple .(AsL.cons .(Ia4 11) .(AsL.cons .(Ic4 12) .(AsL.nil))))
include F in
theorem qtd (hK:qp0 W cd)(hf:σ[2]?=some (foO c (cG c) (qba (cG c) 4 0))):Ex ⟨W,Y,nm22.1,cd⟩ (k+3) fr (lm8 c) σ (nth bd22.1 9) .next (lm8 c) σ:=by
  have q:=qpj F (Y:=Y) (cd:=cd) (k:=k) (fr:=fr) hK hf 4 0 rfl;have hkl:=(F.f21 (.lst []) (.lst []) rfl rfl).kept;have hcl:=qlu F (Y:=Y) (k:=k+2) (fr:=fr) (σ:=σ) (f:=c) (g:=cG c);show Ex _ _ _ _ _ (.For _ _ _ _ _) _ _ _;exact .(Ib3 .(ItE.call .(Iah 24 F.b_enumerate) .(Kept.type) (Evs.cons .(Ev.call .(Iac 31 F.g_law_left) (hkl) (Evs.cons .(Iad 3) .((Evs.cons .(Ia0 4) .(Evs.nil)))) EvK.nil (hcl)) .(Evs.nil)) .(CallIt.enum (Lv.fz))) (by with_unfolding_all exact ForC.pre q .(Weak.refl)))
include F in
theorem qrl:Ex ⟨W,Y,nm22.1,cd⟩ k fr (lm8 c) σ (nth bd22.1 10) .next (qkw c σ.length) (σ ++ [.lst []]):=by
  have hz:(qd1 12 c).length<=Ai:=by exact (by decide:12<=Ai)
  have h4:=qhe (f:=c) (N:=12) (t:=4) (by decide);have h9:=qhe (f:=c) (N:=12) (t:=9) (by decide);have h:Ex ⟨W,Y,nm22.1,cd⟩ k fr (lm8 c) σ (nth bd22.1 10) .next ((((lm8 c).set 15 (some (.loc σ.length))).set 16 (some (.int (qmb c)))).set 17 (some (.int (qor c)))) (σ ++ [.lst []]):=by
    show Ex _ _ _ _ _ (.Assign _ _ _) _ _ _;exact .(Id1 (i:=15) (j:=16) (l:=17) .(Iag .(Ev.tuple (Evs.cons .(Ian Evs.nil) .((Evs.cons .(Ia2 .(Ia9 .(Ia0 1) .(Ia1) .(Lv.fz) (by exact qbc rfl h4) (by exact hz)) .(Ia1) .(Iaw (by decide))) .((Evs.cons .(Ia2 .(Ia1) .(Ia2 .(Ia9 .(Ia0 1) .(Ia1) .(Lv.fz) (by exact qbc rfl h9) (by exact hz)) .(Ia1) .(Iaw (by decide))) .(Icy)) .(Evs.nil))))))) ((rfl:AV.tup [.loc σ.length,.int ((c 4).fmod 4),.int (7 - (c 9).fmod 4)]=.tup [.loc σ.length,.int (qmb c),.int (qor c)]))) Uu Uu Uu (by decide) (by decide) (by decide) Uu Uu Uu)
  exact Ex.post h (by with_unfolding_all exact Ia6 8796084404095)
end
end
section
noncomputable def lnF (c:Nat->Int):Nat->List Nat
  | 0=>[]
  | j+1=>qgk (lnF c j) (qcw (pR (qa6 7 c) j) (lnF c j)) j
theorem qn1 {A:List Nat}(h:A.Pairwise fun a b=>ed a<=ed b):A.Pairwise fun a b=>pR ed r b=true->pR ed r a=true:=h.imp fun h q=>decide_eq_true (Af h (of_decide_eq_true q))
theorem qii (c:Nat->Int):∀j,(lnF c j).Perm (Ac j)/\(lnF c j).Pairwise fun a b=>qa6 7 c a<=qa6 7 c b:=by
  intro j;induction j with
  | zero=>exact ⟨.refl _,.nil⟩
  | succ j ih=>
    obtain ⟨h1,h2⟩:=ih;refine ⟨?_,qg3 (qn1 h2) h2 (fun x _ q=>of_decide_eq_true q) fun x _ q=>Av (Bn.mp (of_decide_eq_false q))⟩;refine (qg4 _ _ _).trans ((h1.cons j).trans ?_);rw[C0];exact (@List.perm_append_comm _ (Ac j) [j]).symm
theorem qqk {c:Nat->Int}{x:Nat}(h:x∈lnF c j):x<j:=Bi.mp ((qii c j).1.mem_iff.mp h)
theorem qjo (c:Nat->Int)(j:Nat):(lnF c j).length=j:=by rw[(qii c j).1.length_eq,AM]
noncomputable def qk8 (c:Nat->Int) (x:Int):Nat:=(((Ac 7).map (qa6 7 c)).filter fun w:Nat=>decide (((w:Nat):Int)<x)).length
theorem qu6 (c:Nat->Int)(x:Int):qcw (fun w=>decide (((qa6 7 c w:Nat):Int)<x)) (lnF c 7)=qk8 c x:=by
  unfold qcw qk8;rw[((qii c 7).1.filter _).length_eq,ET,Ab];rfl
theorem qqr {c:Nat->Int}{x:Int}(h:j<7):((qa6 7 c ((lnF c 7).getD j 0):Nat):Int)<x↔j<qk8 c x:=by
  have hj:j<(lnF c 7).length:=by rw[qjo];exact h
  have hs:=(qii c 7).2;have hp:(lnF c 7).Pairwise (fun a b=>decide (((qa6 7 c b:Nat):Int)<x)=true->decide (((qa6 7 c a:Nat):Int)<x)=true):=hs.imp fun {a b} h q=>decide_eq_true (Fa (Ei.mpr h) (of_decide_eq_true q))
  have h1:=qdy hp j _ (Ad hj);rw[qu6] at h1;rw[Ae,Ad hj,<- h1,decide_eq_true_iff];rfl
section
variable (F:Fac W) {c:Nat->Int}
noncomputable abbrev sgL (σ:List AObj) (A:List Nat):List AObj:=σ ++ [.lst (qak 3 A)]
theorem qkx (A:List Nat):(sgL σ A)[σ.length]?=some (.lst (qak 3 A)):=at0
theorem qnk {A:List Nat}(hA7:∀x∈A,x<7)(j:Nat)(v:AV)(h:(qak 3 A)[j]?=some v):∃x,A[j]?=some x/\v=.loc (eL 3 x)/\x<7:=by
  rw[Aj] at h;obtain ⟨x,h1,h2⟩:=Option.map_eq_some_iff.mp h;exact ⟨x,h1,h2.symm,hA7 x (Aw h1)⟩
include F in
theorem qp2 (D:DocS 7 c 3 σ)(hj:j<7)(hY:Y σ.length):Calls W Y (k+3) fr (sgL σ (lnF c j)) (.glob (.ref A1)) [.loc σ.length,.loc (eL 3 j)] ["key"] [.glob (.ref A19)] .none (sgL σ (lnF c (j+1))):=by
  obtain ⟨_,hA⟩:=qii c j;have hA7:∀x∈lnF c j,x<7:=fun x h=>Bq (qqk h) hj
  have hn:=qkx (σ:=σ) (lnF c j);have hl:(qak 3 (lnF c j)).length=(lnF c j).length:=Ab _;have hzz:(qak 3 (lnF c j)).length<=Ai:=by rw[hl,qjo,Ay];lia
  have D':DocS 7 c 3 (sgL σ (lnF c j)):=D.app;have hpp:=qn1 (r:=j) hA;have h:=qtu F (κ:=fun i=>(qa6 7 c ((lnF c j).getD i 0):Nat)) (kx:=(qa6 7 c j:Nat)) (r:=qcw (pR (qa6 7 c) j) (lnF c j)) hn hY hzz (by rw[hl];exact qjh _ _) (fun i _ hi=>by
    rw[hl] at hi;have h1:=qdy hpp i _ (Ad hi);rw[Ae,Ad hi];show ((qa6 7 c j:Nat):Int)<(qa6 7 c (lnF c j)[i]:Nat)↔_;rw[decide_eq_true_eq] at h1
    grind) (d:=1) (key:=.glob (.ref A19)) (x:=.loc (eL 3 j)) (F.f19 .none).kept rfl (fun i v hv k fr Y=>by
    obtain ⟨x,h1,rfl,h3⟩:=qnk hA7 i v hv;have:=qby F D' h3 k fr Y;rw[Ae,h1];exact this) (fun k fr Y=>qby F D' hj k fr Y) rfl k fr
  have e:=qda (σ:=σ) (τ:=[.lst (qak 3 (lnF c j))]) (n:=σ.length) (j:=0) (x:=.lst ((qak 3 (lnF c j)).take (qcw (pR (qa6 7 c) j) (lnF c j)) ++ [.loc (eL 3 j)] ++ (qak 3 (lnF c j)).drop (qcw (pR (qa6 7 c) j) (lnF c j)))) rfl;rw[<- qjr] at e h;exact Iap h rfl e
noncomputable def ta2211:PSigma (fun l=>(qbl (nth bd22.1 11))=l):=⟨_,by conv=>lhs;whnf⟩
noncomputable def bo2211:PSigma (fun l=>(qbp (nth bd22.1 11))=l):=⟨_,by conv=>lhs;whnf⟩
include F in
theorem qnj (D:DocS 7 c 3 σ)(hY:Y σ.length):∀(m j:Nat),j+m=7->
    ForC ⟨W,Y,nm22.1,cd⟩ (k+3) fr ta2211.1 bo2211.1 [] (.seq (.loc 3) (qak 3 (Ac 7))) j (qkw c σ.length) (sgL σ (lnF c j)) .next (qkw c σ.length) (sgL σ (lnF c 7)):=by
  intro m;induction m with
  | zero=>intro j hj;obtain rfl:j=7:=hj;exact ForC.done (Lv.loc (D.app (τ:=[.lst (qak 3 (lnF c 7))])).row) rfl Exs.nil
  | succ m ih=>
    intro j hj;have h7:j<7:=by lia
    have hk1:=(F.f1k2 .none .none .none).kept;have c1:=qp2 F (k:=k) (fr:=fr) D h7 hY;refine ForC.next (m1:=(qkw c σ.length).set 18 (some (.loc (eL 3 j)))) (z1:=sgL σ (lnF c j)) (v:=.loc (eL 3 j)) (Lv.loc (D.app (τ:=[.lst (qak 3 (lnF c j))])).row) rfl (qkm h7) nofun ?_ ?_ (ih (j+1) (by lia))
    . show As _ _ _ _ _ (.Name _ _) _ _ _;exact .(Ia4 18)
    . refine Exs.post (m2:=(qkw c σ.length).set 18 (some (.loc (eL 3 j)))) ?_ (by with_unfolding_all exact Ia6 8796084404095);show Exs _ _ _ _ _ (_::_) _ _ _;exact .(Exs.cons .(Ex.expr .(Ev.call .(Iac 36 F.g_insort_right) (hk1) (Evs.cons .(Ia0 15) .((Evs.cons .(Ia0 18) .(Evs.nil)))) (EvK.cons .(Iac 37 F.g_law_end) .(EvK.nil)) (c1))) .(Exs.nil))
include F in
theorem qrk (D:DocS 7 c 3 σ)(hY:Y σ.length):Ex ⟨W,Y,nm22.1,cd⟩ (k+3) fr (qkw c σ.length) (σ ++ [.lst []]) (nth bd22.1 11) .next (qkw c σ.length) (sgL σ (lnF c 7)):=by
  have q:=qnj F (cd:=cd) (k:=k) (fr:=fr) D hY 7 0 rfl;have hr:=(D.app (τ:=[.lst []])).row;show Ex _ _ _ _ _ (.For _ _ _ _ _) _ _ _;exact .(Ib3 .(ItE.list .(Ia0 7) (Lv.loc hr)) (by with_unfolding_all exact ForC.pre q .(Weak.refl)))
end
end
section
noncomputable def lmA (c:Nat->Int) (n j:Nat):List (Option AV):=[none,none,none,none,none,none,none,some (.loc 3),none,none,none,none,none,none,none,some (.loc n),some (.int (qmb c)),some (.int (qor c)),none,some (.int ((j:Nat):Int)),none,none,none,some (.lst (qa0 ((Ac 7).map (qa6 7 c)))),none,none,none,none,none,none,none,none,none,none,none,none,none,none,none,none,none,none,none]
noncomputable def qly (c:Nat->Int) (j:Nat):List AV:=[0,1].map fun m:Int=>AV.int (min (max ((qk8 c ((j:Nat)+m):Nat):Int) (qmb c)) (qor c))
noncomputable def ta2212:PSigma (fun l=>(qbl (nth bd22.1 12))=l):=⟨_,by conv=>lhs;whnf⟩
noncomputable def bo2212:PSigma (fun l=>(qbp (nth bd22.1 12))=l):=⟨_,by conv=>lhs;whnf⟩
theorem que (c:Nat->Int)(j:Nat):(qkw c n).set 19 (some (.int ((j:Nat):Int)))=lmA c n j:=rfl
section
variable (F:Fac W) {c:Nat->Int}
include F in
theorem qw0:Ex ⟨W,Y,nm22.1,cd⟩ k fr (lmA c n j) σ (nth bo2212.1 0) .next ((lmA c n j).set 20 (some (.lst (qly c j)))) σ:=by
  have hpe:plain (.lst (qa0 ((Ac 7).map (qa6 7 c))))=true:=qcp _;have hJ:qf2 (qcz (lmA c n j) [none,none,none,none,none,some 19,some 17,some 23,some 16])=true:=by
    show (true&&(true&&(plain (.lst (qa0 ((Ac 7).map (qa6 7 c))))&&(true&&true))))=true;rw[hpe];rfl
  have hv:AV.lst ([0,1].map fun m:Int=>AV.int (min (max (((((Ac 7).map (qa6 7 c)).filter fun w:Nat=>decide (((w:Nat):Int)<(j:Nat)+m)).map fun w:Nat=>AV.int ((w:Nat):Int)).length:Int) (qmb c)) (qor c)))=.lst (qly c j):=by
    refine congrArg AV.lst (AN fun m _=>?_);rw[Ab];rfl
  have hzl:∀x:Int,((((Ac 7).map (qa6 7 c)).filter fun w:Nat=>decide (((w:Nat):Int)<(j:Nat)+x)).map fun w:Nat=>AV.int ((w:Nat):Int)).length<=Ai:=fun x=>by
    rw[Ab,Ay];exact Af (Bu _ _) (by rw[Ab,AM];decide)
  have hz7:((Ac 7).map (qa6 7 c)).length<=2 ^ 20:=by rw[Ab,AM];decide
  show Ex _ _ _ _ _ _ _ ((lmA c n j).set 20 (some (.lst (qly c j)))) _;rw[<- hv];show Ex _ _ _ _ _ (.Assign _ _ _) _ _ _;exact .(Ib8 (i:=20) Uu .(ItE.tuple .(Ev.tuple (Evs.cons .(Ia1) .((Evs.cons .(Ia1) .(Evs.nil)))))) (Ibm [none,none,none,none,none,some 19,some 17,some 23,some 16] (by kernel_rfl) (by kernel_rfl) (hJ)) .(CompC.map Uu ([0,1]) (AV.int) ((fun m:Int=>AV.int (min (max (((((Ac 7).map (qa6 7 c)).filter fun w:Nat=>decide (((w:Nat):Int)<(j:Nat)+m)).map fun w:Nat=>AV.int ((w:Nat):Int)).length:Int) (qmb c)) (qor c)))) _ (fun x hx=>.(Ic4 1)) (fun x hx=>.(Ev.call .(Iah 2 F.b_min) .(Kept.builtin) (Evs.cons .(Ev.call .(Iah 3 F.b_max) .(Kept.builtin) (Evs.cons .(Ev.call .(Iah 4 F.b_len) .(Kept.builtin) (Evs.cons .(Iak .(ItE.list .(Iad 7) .(Lv.fz)) (CompIn.of [none,none,some 5,some 1] (by kernel_rfl) (by kernel_rfl)) .(Iaq Uu ((Ac 7).map (qa6 7 c)) ((fun w:Nat=>AV.int w)) ((fun w:Nat=>decide (((w:Nat):Int)<(j:Nat)+x))) ((fun w:Nat=>AV.int w)) _ (fun x1 hx1=>.(Ia4 1)) (fun x1 hx1=>.(Ia3 .(Ia0 1) .(Ia2 .(Iad 2) .(Iad 3) .(Iai)) .(Op2.lt))) (fun x1 hx1 hp=>.(Ia0 1)) .(fun _=>Weak.set Uu) (hz:=by exact hz7))) .(Evs.nil)) EvK.nil (Calls.len Lv.fz (hzl x))) .((Evs.cons .(Iad 8) .(Evs.nil)))) EvK.nil (Ici)) .((Evs.cons .(Iad 6) .(Evs.nil)))) EvK.nil (Idk))) .(fun _=>Weak.set Uu)) .(qae (fun _=>Uu) _))
include F in
theorem qim (D:DocS 7 c 3 σ):qou W 1 (fun _=>False) (fun _:Unit=>sgL σ (lnF c 7)) (fun _=>True) (.glob (.ref A19)) (.loc σ.length) (qak 3 (lnF c 7)) fun i=>(qa6 7 c ((lnF c 7).getD i 0):Nat):=
  ⟨(F.f19 .none).kept,rfl,fun _ _=>Lv.loc (qkx _),fun i v hv=>Ibs fun k fr Y=>by
    obtain ⟨x,h1,rfl,h3⟩:=qnk (fun x h=>qqk h) i v hv;have:=qby F (D.app (τ:=[.lst (qak 3 (lnF c 7))])) h3 k fr Y;rw[Ae,h1];exact this⟩
include F in
theorem qvz (D:DocS 7 c 3 σ):Ex ⟨W,Y,nm22.1,cd⟩ (k+2) fr ((lmA c σ.length j).set 20 (some (.lst (qly c j)))) (sgL σ (lnF c 7)) (nth bo2212.1 1) .next ((lmA c σ.length j).set 20 (some (.lst (qly c j)))) (sgL σ (lnF c 7)):=by
  obtain ⟨f,b,hf,hb,hfb,hb7⟩:=qs3 c;have hl:(qak 3 (lnF c 7)).length=7:=by rw[Ab,qjo]
  have hz:(qak 3 (lnF c 7)).length<=Ai:=by rw[hl,Ay];decide
  obtain ⟨_,_,c1⟩:=qub F (qim F D) (s:=()) trivial (fun _ _=>rfl) hz (.inr rfl) (x:=((j:Nat):Int)) (r:=min (max (qk8 c (j:Nat)) f) b) (lo:=f) (hi:=b) (by rw[hl];exact hb7) (qt4 hfb) qt3
    (fun i h1 h2=>(qqr (Ah h2 hb7)).trans (qt1 h1 h2).symm) (F.f4k4 _ _ _ _ _)
  obtain ⟨_,_,c2⟩:=qu9 F (qim F D) (s:=()) trivial (fun _ _=>rfl) hz (.inr rfl) (x:=((j:Nat):Int)) (r:=min (max (qk8 c ((j:Nat)+1)) f) b) (lo:=f) (hi:=b) (by rw[hl];exact hb7) (qt4 hfb) qt3
    (fun i h1 h2=>by
      rw[qt2 h1 h2,<- Be,<- qqr (Ah h2 hb7),Int.lt_add_one_iff,Int.not_le]) (F.f2k4 _ _ _ _ _)
  have c1:=c1 k fr Y nofun;have c2:=c2 k fr Y nofun;rw[<- hf,<- hb] at c1 c2;have hk1:=(F.f4k4 .none .none .none .none .none).kept;have hk2:=(F.f2k4 .none .none .none .none .none).kept;have e1:AV.lst (qly c j)=.lst (qa7 [((min (max (qk8 c (j:Nat)) f) b:Nat):Int),((min (max (qk8 c ((j:Nat)+1)) f) b:Nat):Int)]):=by
    rw[<- mmI,<- mmI,<- hf,<- hb];show AV.lst [.int (min (max ((qk8 c ((j:Nat)+0):Nat):Int) (qmb c)) (qor c)),_]=_;rw[Int.add_zero];rfl
  have hne:false=true↔AV.lst (qa7 [((min (max (qk8 c (j:Nat)) f) b:Nat):Int),((min (max (qk8 c ((j:Nat)+1)) f) b:Nat):Int)])≠.lst (qa7 [((min (max (qk8 c (j:Nat)) f) b:Nat):Int),((min (max (qk8 c ((j:Nat)+1)) f) b:Nat):Int)]):=by simp
  rw[e1];show Ex _ _ _ _ _ (.If _ _ _ _) _ _ _;exact .(Ia7 (c:=false) .(Iaa .(Ia3 .(Ev.list (Evs.cons .(Ev.call .(Iac 38 F.g_bisect_left) (hk1) (Evs.cons .(Ia0 15) .((Evs.cons .(Iad 19) .((Evs.cons .(Iad 16) .((Evs.cons .(Iad 17) .(Evs.nil)))))))) (EvK.cons .(Iac 37 F.g_law_end) .(EvK.nil)) ((by with_unfolding_all exact c1))) .((Evs.cons .(Ev.call .(Iac 39 F.g_bisect_right) (hk2) (Evs.cons .(Ia0 15) .((Evs.cons .(Iad 19) .((Evs.cons .(Iad 16) .((Evs.cons .(Iad 17) .(Evs.nil)))))))) (EvK.cons .(Iac 37 F.g_law_end) .(EvK.nil)) ((by with_unfolding_all exact c2))) .(Evs.nil))))) .(Ia0 20) ((by with_unfolding_all exact Ics (c:=false) (Id4 (l:=[((min (max (qk8 c (j:Nat)) f) b:Nat):Int),((min (max (qk8 c ((j:Nat)+1)) f) b:Nat):Int)])) Id4 hne))) rfl) (fun h=>nomatch h) (fun _=>.(Exs.nil)))
include F in
theorem qsb (D:DocS 7 c 3 σ):∀(m j:Nat),j+m=8->
    ForC ⟨W,Y,nm22.1,cd⟩ (k+2) fr ta2212.1 bo2212.1 [] (.range 0 1 8) j (qkw c σ.length) (sgL σ (lnF c 7)) .next (qkw c σ.length) (sgL σ (lnF c 7)):=by
  intro m;induction m with
  | zero=>intro j hj;obtain rfl:j=8:=hj;exact ForC.done Bb rfl Exs.nil
  | succ m ih=>
    intro j hj;have h:=Exs.cons (qw0 F (Y:=Y) (cd:=cd) (k:=k+2) (fr:=fr) (σ:=sgL σ (lnF c 7)) (c:=c) (n:=σ.length) (j:=j)) (Exs.cons (qvz F D) Exs.nil);refine ForC.next (m1:=lmA c σ.length j) (z1:=sgL σ (lnF c 7)) (v:=.int ((j:Nat):Int)) Bb rfl ?_ nofun ?_ (Exs.post h (by with_unfolding_all exact Ia6 8796084404095)) (ih (j+1) (by lia))
    . rw[qb4 (by lia)];congr 2;simp
    . rw[<- que];show As _ _ _ _ _ (.Name _ _) _ _ _;exact .(Ic4 19)
include F in
theorem qrj (D:DocS 7 c 3 σ):Ex ⟨W,Y,nm22.1,cd⟩ (k+2) fr (qkw c σ.length) (sgL σ (lnF c 7)) (nth bd22.1 12) .next (qkw c σ.length) (sgL σ (lnF c 7)):=by
  have q:=qsb F (Y:=Y) (cd:=cd) (k:=k) (fr:=fr) D 8 0 rfl;show Ex _ _ _ _ _ (.For _ _ _ _ _) _ _ _;exact .(Ib3 .(ItE.call .(Iah 30 F.b_range) .(Kept.type) (Evs.cons .(Ia1) .(Evs.nil)) (Iam (by decide))) (by with_unfolding_all exact ForC.pre q .(Weak.refl)))
end
end
section
noncomputable def bo2213:PSigma (fun l=>(qbp (nth bd22.1 13))=l):=⟨_,by conv=>lhs;whnf⟩
noncomputable def ta2213:PSigma (fun l=>(qbl (nth bd22.1 13))=l):=⟨_,by conv=>lhs;whnf⟩
section
variable (F:Fac W) {outer:List Env} {c:Nat->Int}
structure DeM (m:List (Option AV)):Prop where
  row:m[7]?=some (some (.loc 3))
  len:m.length=43
theorem DeM.turn (h:DeM m):DeM ((m.set 21 (some v)).set 22 none):=by
  refine ⟨?_,?_⟩
  . rw[Bl (by decide),Bl (by decide)];exact h.row
  . rw[A5,A5];exact h.len
noncomputable abbrev bad:Str:="lo must be non-negative"
include F in
theorem qee (D:DocS 7 c 3 σ)(hm:DeM m)(hkept:Kept W (.glob (.ref a)))(hr:CallsR W Y k (env::outer) σ (.glob (.ref a)) [.loc 3,.loc (eL 3 0),.int (-1)] ["key"] [.glob (.ref A19)] false "ValueError" (fun us=>∃t,us=[.str bad t]) σ):
    ExsF ⟨W,Y,nm22.1,cd⟩ k env outer (m.set 21 (some (.glob (.ref a)))) σ bo2213.1 .next ((m.set 21 (some (.glob (.ref a)))).set 22 none) σ:=by
  have h7:(m.set 21 (some (.glob (.ref a))))[7]?=some (some (.loc 3)):=by rw[Bl (by decide)];exact hm.row
  have h21:(m.set 21 (some (.glob (.ref a))))[21]?=some (some (.glob (.ref a))):=by rw[Bs (by rw[hm.len];decide)]
  have hz:(qak 3 (Ac 7)).length<=Ai:=by exact (by decide:7<=Ai)
  have h0:(qak 3 (Ac 7))[0]?=some (.loc (eL 3 0)):=qkm (by decide);have hb:ExsR ⟨W,Y,nm22.1,cd⟩ k (env::outer) (m.set 21 (some (.glob (.ref a)))) σ (qbp (nth bo2213.1 0)) false "ValueError" (fun us=>∃t,us=[.str bad t]) (m.set 21 (some (.glob (.ref a)))) σ:=by
    show ExsR _ _ _ _ _ (.Expr _ _::_) _ _ _ _ _;refine ExsR.head (ExR.expr ?_);show EvR _ _ _ _ _ (.Call (.Name _ _) (_::_::_::[]) (_::[]) _) _ _ _ _;have ha:Evs ⟨W,Y,nm22.1,cd⟩ k (env::outer) (m.set 21 (some (.glob (.ref a)))) σ (qv7 (qkf (nth (qbp (nth bo2213.1 0)) 0))) [.loc 3,.loc (eL 3 0),.int (-1)] σ:=by
      show Evs _ _ _ _ _ (_::_::_::[]) _ _;refine Evs.cons (Ibh (i:=7) rfl h7) (Evs.cons ?_ (Evs.cons (Ic3 Ia1) Evs.nil));exact Ia9 (Ibh (i:=7) rfl h7) Ia1 (Lv.loc D.row) (qbc (j:=0) rfl h0) hz
    exact EvR.call (Ibh (i:=21) rfl h21) hkept ha (EvK.cons (Iac 37 F.g_law_end) EvK.nil) hr
  show ExsF _ _ _ _ _ _ (.Try _ _ _ _ _::[]) _ _ _;refine ExsF.cons ?_ ExsF.nil;exact Idf (xp:=⟨0,0,0,0⟩) (tp:=⟨0,0,0,0⟩) (i:=41) (j:=22) (l:=42) hb rfl F.b_ValueError.g F.b_ValueError.b rfl (by rw[A5,hm.len];decide) rfl F.b_str.g F.b_str.b
include F in
theorem qoe (D:DocS 7 c 3 σ)(hm:DeM m):∃m',DeM m'/\
    ForF ⟨W,Y,nm22.1,cd⟩ (k+3) env outer ta2213.1 bo2213.1 [] (.tup [.glob (.ref A4),.glob (.ref A2),.glob (.ref A3),.glob (.ref A1)]) 0 m σ .next m' σ:=by
  have hx:∀k fr Y,Calls W Y (k+1) fr σ (.glob (.ref A19)) [.loc (eL 3 0)] [] [] (.int (qa6 7 c 0:Nat)) σ:=fun k fr Y=>qby F D (by decide) k fr Y
  have t1:=qee F (Y:=Y) (cd:=cd) (k:=k+3) (outer:=outer) (env:=env) D hm (F.f4k2 .none .none .none).kept (qkc F (k:=k+2));have m1:=hm.turn (v:=.glob (.ref A4));have m2:=m1.turn (v:=.glob (.ref A2));have m3:=m2.turn (v:=.glob (.ref A3));have m4:=m3.turn (v:=.glob (.ref A1));have t2:=qee F (Y:=Y) (cd:=cd) (k:=k+3) (outer:=outer) (env:=env) D m1 (F.f2k2 .none .none .none).kept (qkb F (k:=k+2));have t3:=qee F (Y:=Y) (cd:=cd) (k:=k+3) (outer:=outer) (env:=env) D m2 (F.f3k2 .none .none .none).kept (qju F (k:=k) (d:=1) (F.f19 .none).kept rfl hx);have t4:=qee F (Y:=Y) (cd:=cd) (k:=k+3) (outer:=outer) (env:=env) D m3 (F.f1k2 .none .none .none).kept (qjt F (k:=k) (d:=1) (F.f19 .none).kept rfl hx);refine ⟨_,m4,?_⟩;have as_:∀(m:List (Option AV)) (v:AV),plain v=true->As ⟨W,Y,nm22.1,cd⟩ (k+3) (env::outer) m σ ta2213.1 v (m.set 21 (some v)) σ:=fun m v hv=>by
    show As _ _ _ _ _ (.Name _ _) _ _ _;exact Ibz (i:=21) rfl hv
  refine ForF.next trivial rfl rfl nofun (as_ _ _ rfl) t1 ?_;refine ForF.next trivial rfl rfl nofun (as_ _ _ rfl) t2 ?_;refine ForF.next trivial rfl rfl nofun (as_ _ _ rfl) t3 ?_;refine ForF.next trivial rfl rfl nofun (as_ _ _ rfl) t4 ?_;exact ForF.done trivial rfl ExsF.nil
include F in
theorem qri (D:DocS 7 c 3 σ):∃m',DeM m'/\ExF ⟨W,Y,nm22.1,cd⟩ (k+3) env outer (qkw c n) σ (nth bd22.1 13) .next m' σ:=by
  obtain ⟨m',hm',q⟩:=qoe F (Y:=Y) (cd:=cd) (k:=k) (outer:=outer) (env:=env) D (m:=qkw c n) ⟨rfl,rfl⟩;refine ⟨m',hm',?_⟩;show ExF _ _ _ _ _ _ (.For _ _ _ _ _) _ _ _;refine Idz (ai:=.tup [.glob (.ref A4),.glob (.ref A2),.glob (.ref A3),.glob (.ref A1)]) ?_ q;exact .(ItE.tuple .(Ev.tuple (Evs.cons .(Iac 38 F.g_bisect_left) .((Evs.cons .(Iac 39 F.g_bisect_right) .((Evs.cons .(Iac 40 F.g_insort_left) .((Evs.cons .(Iac 36 F.g_insort_right) .(Evs.nil))))))))))
theorem qrh (D:DocS 7 c 3 σ)(hm:DeM m):Ex ⟨W,Y,nm22.1,cd⟩ k fr m σ (nth bd22.1 14) (.ret (.bool true)) m σ:=by
  have hrow:=D.row;have h7:∀x∈Ac 7,x<7:=fun x h=>Bi.mp h
  have hk:∀x,qdq (qgl (qfw c x)) (qgw (qfw c x) x) ("k":Str)=some (.int (x:Nat)):=fun x=>qlz _ _
  have heq:true=true↔AV.lst ((Ac 7).map fun x:Nat=>AV.int (x:Nat))=.lst [.int 0,.int 1,.int 2,.int 3,.int 4,.int 5,.int 6]:=⟨fun _=>rfl,fun _=>rfl⟩
  have hD1:D1 64 (.lst ((Ac 7).map fun x:Nat=>AV.int (x:Nat))):=D1.lst (d:=63) fun _ _=>D1.int
  have hD2:D1 64 (.lst [.int 0,.int 1,.int 2,.int 3,.int 4,.int 5,.int 6]):=hD1;show Ex _ _ _ _ _ (.Return (some (.Compare _ _ _ _)) _) _ _ _;exact .(Iaj .(Iav .(Iak .(ItE.list .(Ibh (i:=7) Uu hm.row) (Lv.loc hrow)) (CompIn.of [none,none] (by kernel_rfl) (by kernel_rfl)) .(CompC.map Uu (Ac 7) ((fun x:Nat=>AV.loc (eL 3 x))) ((fun x:Nat=>AV.int (x:Nat))) _ (fun x hx=>.(Ia4 1)) (fun x hx=>.(Ibg .(Iab .(Ia0 1) (by exact D.els x (h7 x hx)) Uu qao) .(Ia8) (D.att x (h7 x hx)) (hk x))) .(fun _=>Weak.set Uu) (hO:=by with_unfolding_all exact Lv.loc (by assumption)))) .(Ev.list (Evs.cons .(Ia1) .((Evs.cons .(Ia1) .((Evs.cons .(Ia1) .((Evs.cons .(Ia1) .((Evs.cons .(Ia1) .((Evs.cons .(Ia1) .((Evs.cons .(Ia1) .(Evs.nil))))))))))))))) (Ibo (c:=true) (Dv.of hD1) (Dv.of hD2) heq)))
end
theorem qs7 {scr:List Int}(hz:scr.length<=63)(t:Nat):0<=qoi scr t/\qoi scr t<64 ^ 6:=by
  have hs:∀l:List Int,0<=(l.map fun v=>v.fmod 1000000).sum/\(l.map fun v=>v.fmod 1000000).sum<=1000000*l.length:=by
    intro l;induction l with
    | nil=>exact ⟨Int.le_refl _,Int.le_refl _⟩
    | cons v l ih=>
      have h1:0<=v.fmod 1000000:=BX _ (by decide);have h2:v.fmod 1000000<1000000:=Dp _ (by decide);simp only[Bz,Cr,BY];generalize v.fmod 1000000=z at *;omega
  have hb:0<=base2.getD t 0/\base2.getD t 0<=4087:=by
    rcases AT t 12 with h | h
    . exact (by decide:∀t:Fin 12,0<=base2.getD t 0/\base2.getD t 0<=4087) ⟨t,h⟩
    . rw[Ae,BK h];decide
  have h:0<=(qm0 scr t).sum/\(qm0 scr t).sum<=1000000*(pickL (pickL scr none (some 60) none) (some ((t:Nat):Int)) none (some 12)).length:=hs _;have hl:=ql4 hz t;unfold qoi;have:(64:Int) ^ 6=68719476736:=by decide
  rw[this];generalize (qm0 scr t).sum=z at *;generalize base2.getD t 0=w at *;lia
theorem qnp (F:Fac W){scr:List Int}(hz:scr.length<=63)(k:Nat):Calls W noY (k+10) [] [] (.glob (.ref A22)) [.lst (qa7 scr)] [] [] (.bool true) []:=by
  obtain ⟨fd,xs,vs,hfn,hK,hb,B⟩:=F.f22 (.lst (qa7 scr)) (qdn _);generalize hc:qoi scr=c;have hcell:∀t,0<=c t/\c t<64 ^ 6:=fun t=>by rw[<- hc];exact qs7 hz t
  have hY:∀m:Nat,(fun m=>noY m\/0<=m) m:=fun m=>.inr (AI _)
  obtain ⟨z2,D2,hdoc⟩:=qj0 F (N:=7) (f:=c) (z0:=st2 c) (Y:=fun m=>noY m\/0<=m) (k:=k+6) (.inl rfl);obtain ⟨z4,D4,hpat⟩:=qj0 F (N:=4) (f:=cG c) (z0:=z2) (Y:=fun m=>noY m\/0<=m) (k:=k+6) (.inr rfl);have hlen:45<=z2.length:=D2.len;have S2:DocS 7 c 3 z2:=⟨D2.row,D2.els,D2.inn,D2.att⟩
  have S4:DocS 7 c 3 z4:=S2.keep fun i _ h=>D4.old i (by lia)
  have P4:DocS 4 (cG c) z2.length z4:=⟨D4.row,D4.els,D4.inn,D4.att⟩
  have hf4:z4[2]?=some (.dint [] []):=(D4.old 2 (by lia)).trans (D2.old 2 (by exact (by decide:2<3)));have hl4:2<z4.length:=qbn hf4;obtain ⟨z5,h5⟩:∃z5,z4.set 2 (foO c (cG c) (qba (cG c) 4 0))=z5:=⟨_,rfl⟩
  have S5:DocS 7 c 3 z5:=h5 ▸ S4.set (.inl (by decide));have hf5:z5[2]?=some (foO c (cG c) (qba (cG c) 4 0)):=by rw[<- h5,Bs hl4]
  have S6:DocS 7 c 3 (sgL z5 (lnF c 7)):=S5.app;have h7:=fun fr=>qtf F (Y:=fun m=>noY m\/0<=m) (cd:=fd.code) (k:=k+2) (fr:=fr) S4 P4 (by lia) hf4 (hY 2)
  rw[h5] at h7;have h13:=fun env=>qri F (Y:=fun m=>noY m\/0<=m) (cd:=fd.code) (k:=k+6) (outer:=[]) (env:=env) (n:=z5.length) S6
  refine Idl (m':=[]) (z'':=sgL z5 (lnF c 7)) (fl:=.ret (.bool true)) 0 (hfn (fun m=>noY m\/0<=m)) hb B (fun env=>?_) (fun n h=>by simp at h) (AI _) (AI _) rfl rfl;obtain ⟨m',hm',h13⟩:=h13 env;have h0:=qtm F (Y:=fun m=>noY m\/0<=m) (cd:=fd.code) (k:=k+9) (fr:=[env]) (σ:=[]) hz;rw[hc] at h0;have h0':Ex ⟨W,fun m=>noY m\/0<=m,nm22.1,fd.code⟩ (k+9) [env] (qtn [some (.lst (qa7 scr))]) [] (nth bd22.1 0) .next (lm1 c) []:=Ex.post h0 (by with_unfolding_all exact Ia6 8796093022205);refine Idn (m2:=m') ?_;show ExsF _ _ _ _ _ _ (_::_::_::_::_::_::_::_::_::_::_::_::_::_::_::[]) _ _ _;refine ExsF.cons (Ex.f h0') (ExsF.cons (Ex.f (qtl F (k:=k+8))) (ExsF.cons (Ex.f (qtk F (k:=k+7) hcell hY)) (ExsF.cons (Ex.f (qtj F (k:=k+8))) (ExsF.cons (Ex.f (qti F (k:=k+9) (σ:=z2) (hdoc [env]))) ?_))));refine ExsF.cons (Ex.f (qth F (k:=k+9) (z':=z4) (pn:=z2.length) (hpat [env]))) (ExsF.cons (Ex.f (qtg F)) (ExsF.cons (Ex.f (h7 [env])) (ExsF.cons (Ex.f (qte F)) (ExsF.cons (Ex.f (qtd F (k:=k+6) hK hf5)) (ExsF.cons (Ex.f (qrl F)) (ExsF.cons (Ex.f (qrk F (k:=k+6) S5 (hY _))) (ExsF.cons (Ex.f (qrj F (k:=k+7) S5)) (ExsF.cons h13 (ExsF.ret (Ex.f (qrh S6 hm')))))))))))
end
end
section
noncomputable abbrev Qv:Dq:={ P3 with main:={ P3.main with body:=[P3.main.body.getLastD (.Pass default)] } }
noncomputable abbrev Lv0:List Str:=["insort_right","bisect_right","insort_left","bisect_left","pretty_flags","_parse_varint","iselement","SubElement","_law_digits","_law_read","_law_words","_law_outline","_law_element","_law_document","_law_end","_law_lies","_law_left","COMPILER_FLAG_NAMES"]
noncomputable def tbN:List (Str×Option Value):=[pN "insort_right" 23,pN "bisect_right" 32,pN "insort_left" 41,pN "bisect_left" 50,pN "pretty_flags" 58,pN "_parse_varint" 65,pN "iselement" 72,pN "SubElement" 81,pN "_law_digits" 86,pN "_law_read" 93,pN "_law_words" 98,pN "_law_outline" 103,pN "_law_element" 110,pN "_law_document" 115,pN "_law_end" 122,pN "_law_lies" 127,pN "_law_left" 132,pN "law" 137,pN "COMPILER_FLAG_NAMES" 51,pZ "StopIteration",pZ "ValueError",pZ "enumerate",pZ "hasattr",pZ "hex",pZ "iter",pZ "len",pZ "max",pZ "min",pZ "next",pZ "range",pZ "sorted",pZ "str",pZ "sum"]
noncomputable def tbF:List (Addr×FView):=[pF 23 (mkV P3 1 22 "insort_right" (.ref 15) (.ref 16)),pF 32 (mkV P3 2 31 "bisect_right" (.ref 24) (.ref 25)),pF 41 (mkV P3 3 40 "insort_left" (.ref 33) (.ref 34)),pF 50 (mkV P3 4 49 "bisect_left" (.ref 42) (.ref 43)),pF 58 (mkV P3 7 57 "pretty_flags" .none .none),pF 65 (mkV P3 8 64 "_parse_varint" .none .none),pF 72 (mkV P3 10 71 "iselement" .none .none),pF 81 (mkV P3 11 80 "SubElement" (.ref 74) .none),pF 86 (mkV P3 13 85 "_law_digits" .none .none),pF 93 (mkV P3 14 92 "_law_read" .none .none),pF 98 (mkV P3 15 97 "_law_words" .none .none),pF 103 (mkV P3 16 102 "_law_outline" .none .none),pF 110 (mkV P3 17 109 "_law_element" .none .none),pF 115 (mkV P3 18 114 "_law_document" .none .none),pF 122 (mkV P3 19 121 "_law_end" .none .none),pF 127 (mkV P3 20 126 "_law_lies" .none .none),pF 132 (mkV P3 21 131 "_law_left" .none .none),pF 137 (mkV P3 22 136 "law" .none .none)]
noncomputable def tbO (p:Params):List (Addr×Obj):=[pO 24 ({ cls:=.type "tuple",data:=.seq #[.int 0 202,.none] }),pO 25 ({ cls:=.type "dict",data:=.dict #[⟨Fu p "key",.str "key" 203,.none⟩] 1 }),pO 42 ({ cls:=.type "tuple",data:=.seq #[.int 0 229,.none] }),pO 43 ({ cls:=.type "dict",data:=.dict #[⟨Fu p "key",.str "key" 230,.none⟩] 1 }),pO 15 ({ cls:=.type "tuple",data:=.seq #[.int 0 189,.none] }),pO 16 ({ cls:=.type "dict",data:=.dict #[⟨Fu p "key",.str "key" 190,.none⟩] 1 }),pO 33 ({ cls:=.type "tuple",data:=.seq #[.int 0 216,.none] }),pO 34 ({ cls:=.type "dict",data:=.dict #[⟨Fu p "key",.str "key" 217,.none⟩] 1 }),pO 74 ({ cls:=.type "tuple",data:=.seq #[.ref 73] }),pO 73 ({ cls:=.type "dict",data:=.dict #[] }),pO 105 (Em #[]),pO 112 (Em #[]),pO 134 (Em #[])]
noncomputable def tbA:List Addr:=[24,25,42,43,15,16,33,34,74,73,105,112,134]
noncomputable def tbC:List (Addr×Addr×Str):=[pC 22 18 "insort_right",pC 31 27 "bisect_right",pC 40 36 "insort_left",pC 49 45 "bisect_left",pC 57 53 "pretty_flags",pC 64 60 "_parse_varint",pC 71 67 "iselement",pC 80 76 "SubElement",pC 85 83 "_law_digits",pC 92 88 "_law_read",pC 97 95 "_law_words",pC 102 100 "_law_outline",pC 109 105 "_law_element",pC 114 112 "_law_document",pC 121 117 "_law_end",pC 126 124 "_law_lies",pC 131 129 "_law_left",pC 136 134 "law"]
noncomputable def chk (h:Heap):Bool:=(tbC.all fun x=>qk7 x.1 x.2.1 x.2.2 (h.get? x.1))&&(qki flagTab (h.get? 51)&&(h.get? Cp).isSome)
def FnAt (W:Wd) (p:Dq) (i:Nat) (nm:List (Str×Ax)) (body:List Stmt) (a c:Addr) (q:Str) (dV kV:Value):Prop:=∃n doc pm an ct,∀Y,qqt ⟨W,Y,nm,.ref c⟩ a ((mkV p i c q dV kV).fd n doc pm an ct) body
theorem FnAt.B {p:Dq}{q:Str}{dV kV:Value}(Q:FnAt W p i nm body a c q dV kV){K:Value->Prop}(hK:K (.ref c))(hb:∀n doc pm an ct,qcu W ((mkV p i c q dV kV).fd n doc pm an ct) args kn kv xs vs)(bi:Binds nm xs vs (AR nm.length none) m1):FnB W K nm body a args kn kv m1:=let ⟨n,doc,pm,an,ct,F⟩:=Q;⟨_,xs,vs,F,hK,hb n doc pm an ct,bi⟩
theorem FnAt.X {p:Dq}{q:Str}{dV kV:Value}(Q:FnAt W p i nm body a c q dV kV){m1:Nat->List (Option AV)}(hb:∀n doc pm an ct,BindX W ((mkV p i c q dV kV).fd n doc pm an ct) args kn kv xs vs)(bi:∀n,Binds nm xs (vs ++ [.loc n]) (AR nm.length none) (m1 n)):FnX W nm body a args kn kv m1:=let ⟨n,doc,pm,an,ct,F⟩:=Q;⟨_,xs,vs,F,hb n doc pm an ct,bi⟩
theorem qu0 (hN:∀(i:Nat) (x:Str) (v:Option Value),tbN[i]?=some (x,v)->W.mg x=v)(hB:∀x:Str,x≠"__name__"->W.mb x=bootBuiltins x)(hF:∀(i:Nat) (a:Addr) (v:FView),tbF[i]?=some (a,v)->qsf (W.s1.heap.get? a)=some v)(hO:∀(i:Nat) (a:Addr) (o:Obj),(tbO W.w.params)[i]?=some (a,o)->W.s1.heap.get? a=some o)(hC:chk W.s1.heap=true)(ht:∀a,W.tab a↔(Eh W.s1.heap a/\W.s1.heap.get? a=some (Em #[])))(bm:∃bm ob,W.mg "__builtins__" = some (.ref bm)/\bm≠Bm/\W.s1.heap.get? bm=some ob/\ob.cls=.type "module"/\ob.dict=some Bm/\ob.data=.plain):Fac W:=by
  obtain ⟨hC1,hC2⟩:=AJ.mp hC;have hc:∀(i:Nat) (c P:Addr) (q:Str),tbC[i]?=some (c,P,q)->qk7 c P q (W.s1.heap.get? c)=true:=fun i c P q h=>BZ.mp hC1 _ (Aw h)
  have Q1:FnAt W P3 1 nm1.1 bd1.1 _ _ _ _ _:=qd5 (hF 0 _ _ rfl) (hc 0 _ _ _ rfl) bd1.2 nm1.2 rfl rfl rfl (by decide +kernel) (by decide +kernel);have Q2:FnAt W P3 2 nm2.1 bd2.1 _ _ _ _ _:=qd5 (hF 1 _ _ rfl) (hc 1 _ _ _ rfl) bd2.2 nm2.2 rfl rfl rfl (by decide +kernel) (by decide +kernel);have Q3:FnAt W P3 3 nm3.1 bd3.1 _ _ _ _ _:=qd5 (hF 2 _ _ rfl) (hc 2 _ _ _ rfl) bd3.2 nm3.2 rfl rfl rfl (by decide +kernel) (by decide +kernel);have Q4:FnAt W P3 4 nm4.1 bd4.1 _ _ _ _ _:=qd5 (hF 3 _ _ rfl) (hc 3 _ _ _ rfl) bd4.2 nm4.2 rfl rfl rfl (by decide +kernel) (by decide +kernel);have Q7:FnAt W P3 7 nm7.1 bd7.1 _ _ _ _ _:=qd5 (hF 4 _ _ rfl) (hc 4 _ _ _ rfl) bd7.2 nm7.2 rfl rfl rfl (by decide +kernel) (by decide +kernel);have Q8:FnAt W P3 8 nm8.1 bd8.1 _ _ _ _ _:=qd5 (hF 5 _ _ rfl) (hc 5 _ _ _ rfl) bd8.2 nm8.2 rfl rfl rfl (by decide +kernel) (by decide +kernel);have Q10:FnAt W P3 10 nm10.1 bd10.1 _ _ _ _ _:=qd5 (hF 6 _ _ rfl) (hc 6 _ _ _ rfl) bd10.2 nm10.2 rfl rfl rfl (by decide +kernel) (by decide +kernel);have Q11:FnAt W P3 11 nm11.1 bd11.1 _ _ _ _ _:=qd5 (hF 7 _ _ rfl) (hc 7 _ _ _ rfl) bd11.2 nm11.2 rfl rfl rfl (by decide +kernel) (by decide +kernel);have Q13:FnAt W P3 13 nm13.1 bd13.1 _ _ _ _ _:=qd5 (hF 8 _ _ rfl) (hc 8 _ _ _ rfl) bd13.2 nm13.2 rfl rfl rfl (by decide +kernel) (by decide +kernel);have Q14:FnAt W P3 14 nm14.1 bd14.1 _ _ _ _ _:=qd5 (hF 9 _ _ rfl) (hc 9 _ _ _ rfl) bd14.2 nm14.2 rfl rfl rfl (by decide +kernel) (by decide +kernel);have Q15:FnAt W P3 15 nm15.1 bd15.1 _ _ _ _ _:=qd5 (hF 10 _ _ rfl) (hc 10 _ _ _ rfl) bd15.2 nm15.2 rfl rfl rfl (by decide +kernel) (by decide +kernel);have Q16:FnAt W P3 16 nm16.1 bd16.1 _ _ _ _ _:=qd5 (hF 11 _ _ rfl) (hc 11 _ _ _ rfl) bd16.2 nm16.2 rfl rfl rfl (by decide +kernel) (by decide +kernel);have Q17:FnAt W P3 17 nm17.1 bd17.1 _ _ _ _ _:=qd5 (hF 12 _ _ rfl) (hc 12 _ _ _ rfl) bd17.2 nm17.2 rfl rfl rfl (by decide +kernel) (by decide +kernel);have Q18:FnAt W P3 18 nm18.1 bd18.1 _ _ _ _ _:=qd5 (hF 13 _ _ rfl) (hc 13 _ _ _ rfl) bd18.2 nm18.2 rfl rfl rfl (by decide +kernel) (by decide +kernel);have Q19:FnAt W P3 19 nm19.1 bd19.1 _ _ _ _ _:=qd5 (hF 14 _ _ rfl) (hc 14 _ _ _ rfl) bd19.2 nm19.2 rfl rfl rfl (by decide +kernel) (by decide +kernel);have Q20:FnAt W P3 20 nm20.1 bd20.1 _ _ _ _ _:=qd5 (hF 15 _ _ rfl) (hc 15 _ _ _ rfl) bd20.2 nm20.2 rfl rfl rfl (by decide +kernel) (by decide +kernel);have Q21:FnAt W P3 21 nm21.1 bd21.1 _ _ _ _ _:=qd5 (hF 16 _ _ rfl) (hc 16 _ _ _ rfl) bd21.2 nm21.2 rfl rfl rfl (by decide +kernel) (by decide +kernel);have Q22:FnAt W P3 22 nm22.1 bd22.1 _ _ _ _ _:=qd5 (hF 17 _ _ rfl) (hc 17 _ _ _ rfl) bd22.2 nm22.2 rfl rfl rfl (by decide +kernel) (by decide +kernel);have K17:=qjq (hc 12 _ _ _ rfl) (hO 10 _ _ rfl) ht bm;have K18:=qjq (hc 13 _ _ _ rfl) (hO 11 _ _ rfl) ht bm;have K22:=qjq (hc 17 _ _ _ rfl) (hO 12 _ _ rfl) ht bm;have X2:=qpp (hO 0 _ _ rfl) (hO 1 _ _ rfl) nofun nofun;have B2:∀v0 v1 v2 v3 v4:AV,Binds nm2.1 ["a","x","lo","hi","key"] [v0,v1,v2,v3,v4] (AR nm2.1.length none) [some v0,some v1,some v2,some v3,some v4,none,none,none]:=fun v0 v1 v2 v3 v4=>.ok (i:=0) (by rfl) rfl (.ok (i:=1) (by rfl) rfl (.ok (i:=2) (by rfl) rfl (.ok (i:=3) (by rfl) rfl (.ok (i:=4) (by rfl) rfl .nil))))
  have X4:=qpp (hO 2 _ _ rfl) (hO 3 _ _ rfl) nofun nofun;have B4:∀v0 v1 v2 v3 v4:AV,Binds nm4.1 ["a","x","lo","hi","key"] [v0,v1,v2,v3,v4] (AR nm4.1.length none) [some v0,some v1,some v2,some v3,some v4,none,none,none]:=fun v0 v1 v2 v3 v4=>.ok (i:=0) (by rfl) rfl (.ok (i:=1) (by rfl) rfl (.ok (i:=2) (by rfl) rfl (.ok (i:=3) (by rfl) rfl (.ok (i:=4) (by rfl) rfl .nil))))
  have X1:=qpp (hO 4 _ _ rfl) (hO 5 _ _ rfl) nofun nofun;have B1:∀v0 v1 v2 v3 v4:AV,Binds nm1.1 ["a","x","lo","hi","key"] [v0,v1,v2,v3,v4] (AR nm1.1.length none) [some v0,some v1,some v2,some v3,some v4,none]:=fun v0 v1 v2 v3 v4=>.ok (i:=0) (by rfl) rfl (.ok (i:=1) (by rfl) rfl (.ok (i:=2) (by rfl) rfl (.ok (i:=3) (by rfl) rfl (.ok (i:=4) (by rfl) rfl .nil))))
  have X3:=qpp (hO 6 _ _ rfl) (hO 7 _ _ rfl) nofun nofun;have B3:∀v0 v1 v2 v3 v4:AV,Binds nm3.1 ["a","x","lo","hi","key"] [v0,v1,v2,v3,v4] (AR nm3.1.length none) [some v0,some v1,some v2,some v3,some v4,none]:=fun v0 v1 v2 v3 v4=>.ok (i:=0) (by rfl) rfl (.ok (i:=1) (by rfl) rfl (.ok (i:=2) (by rfl) rfl (.ok (i:=3) (by rfl) rfl (.ok (i:=4) (by rfl) rfl .nil))))
  exact {
    g_insort_right:=hN 0 _ _ rfl
    g_bisect_right:=hN 1 _ _ rfl
    g_insort_left:=hN 2 _ _ rfl
    g_bisect_left:=hN 3 _ _ rfl
    g_pretty_flags:=hN 4 _ _ rfl
    g_parse_varint:=hN 5 _ _ rfl
    g_iselement:=hN 6 _ _ rfl
    g_SubElement:=hN 7 _ _ rfl
    g_law_digits:=hN 8 _ _ rfl
    g_law_read:=hN 9 _ _ rfl
    g_law_words:=hN 10 _ _ rfl
    g_law_outline:=hN 11 _ _ rfl
    g_law_element:=hN 12 _ _ rfl
    g_law_document:=hN 13 _ _ rfl
    g_law_end:=hN 14 _ _ rfl
    g_law_lies:=hN 15 _ _ rfl
    g_law_left:=hN 16 _ _ rfl
    g_law:=hN 17 _ _ rfl
    g_COMPILER_FLAG_NAMES:=hN 18 _ _ rfl
    tab:=qje (AJ.mp hC2).1 rfl (by decide)
    b_StopIteration:=⟨hN 19 _ _ rfl,(hB _ (by decide +kernel)).trans (by kernel_rfl)⟩
    b_ValueError:=⟨hN 20 _ _ rfl,(hB _ (by decide +kernel)).trans (by kernel_rfl)⟩
    b_enumerate:=⟨hN 21 _ _ rfl,(hB _ (by decide +kernel)).trans (by kernel_rfl)⟩
    b_hasattr:=⟨hN 22 _ _ rfl,(hB _ (by decide +kernel)).trans (by kernel_rfl)⟩
    b_hex:=⟨hN 23 _ _ rfl,(hB _ (by decide +kernel)).trans (by kernel_rfl)⟩
    b_iter:=⟨hN 24 _ _ rfl,(hB _ (by decide +kernel)).trans (by kernel_rfl)⟩
    b_len:=⟨hN 25 _ _ rfl,(hB _ (by decide +kernel)).trans (by kernel_rfl)⟩
    b_max:=⟨hN 26 _ _ rfl,(hB _ (by decide +kernel)).trans (by kernel_rfl)⟩
    b_min:=⟨hN 27 _ _ rfl,(hB _ (by decide +kernel)).trans (by kernel_rfl)⟩
    b_next:=⟨hN 28 _ _ rfl,(hB _ (by decide +kernel)).trans (by kernel_rfl)⟩
    b_range:=⟨hN 29 _ _ rfl,(hB _ (by decide +kernel)).trans (by kernel_rfl)⟩
    b_sorted:=⟨hN 30 _ _ rfl,(hB _ (by decide +kernel)).trans (by kernel_rfl)⟩
    b_str:=⟨hN 31 _ _ rfl,(hB _ (by decide +kernel)).trans (by kernel_rfl)⟩
    b_sum:=⟨hN 32 _ _ rfl,(hB _ (by decide +kernel)).trans (by kernel_rfl)⟩
    f2k2:=fun a x key=>Q2.B trivial (fun _ _ _ _ _=>bk2 (t:=202) X2 (fun S u0 u1 k0=>by kernel_rfl) a x key) (B2 a x (.int 0) .none key)
    f2k3:=fun a x lo key=>Q2.B trivial (fun _ _ _ _ _=>bk3 X2 (fun S u0 u1 u2 k0=>by kernel_rfl) a x lo key) (B2 a x lo .none key)
    f2k4:=fun a x lo hi key=>Q2.B trivial (fun _ _ _ _ _=>bk4 X2 (fun S u0 u1 u2 u3 k0=>by kernel_rfl) a x lo hi key) (B2 a x lo hi key)
    f2n4:=fun a x lo hi=>Q2.B trivial (fun _ _ _ _ _=>bn4 X2 (fun S u0 u1 u2 u3=>by kernel_rfl) a x lo hi) (B2 a x lo hi .none)
    f2n2:=fun a x=>Q2.B trivial (fun _ _ _ _ _=>bn2 (t:=202) X2 (fun S u0 u1=>by kernel_rfl) a x) (B2 a x (.int 0) .none .none)
    f4k2:=fun a x key=>Q4.B trivial (fun _ _ _ _ _=>bk2 (t:=229) X4 (fun S u0 u1 k0=>by kernel_rfl) a x key) (B4 a x (.int 0) .none key)
    f4k3:=fun a x lo key=>Q4.B trivial (fun _ _ _ _ _=>bk3 X4 (fun S u0 u1 u2 k0=>by kernel_rfl) a x lo key) (B4 a x lo .none key)
    f4k4:=fun a x lo hi key=>Q4.B trivial (fun _ _ _ _ _=>bk4 X4 (fun S u0 u1 u2 u3 k0=>by kernel_rfl) a x lo hi key) (B4 a x lo hi key)
    f4n4:=fun a x lo hi=>Q4.B trivial (fun _ _ _ _ _=>bn4 X4 (fun S u0 u1 u2 u3=>by kernel_rfl) a x lo hi) (B4 a x lo hi .none)
    f4n2:=fun a x=>Q4.B trivial (fun _ _ _ _ _=>bn2 (t:=229) X4 (fun S u0 u1=>by kernel_rfl) a x) (B4 a x (.int 0) .none .none)
    f1k2:=fun a x key=>Q1.B trivial (fun _ _ _ _ _=>bk2 (t:=189) X1 (fun S u0 u1 k0=>by kernel_rfl) a x key) (B1 a x (.int 0) .none key)
    f1k3:=fun a x lo key=>Q1.B trivial (fun _ _ _ _ _=>bk3 X1 (fun S u0 u1 u2 k0=>by kernel_rfl) a x lo key) (B1 a x lo .none key)
    f1n2:=fun a x=>Q1.B trivial (fun _ _ _ _ _=>bn2 (t:=189) X1 (fun S u0 u1=>by kernel_rfl) a x) (B1 a x (.int 0) .none .none)
    f1n4:=fun a x lo hi=>Q1.B trivial (fun _ _ _ _ _=>bn4 X1 (fun S u0 u1 u2 u3=>by kernel_rfl) a x lo hi) (B1 a x lo hi .none)
    f3k2:=fun a x key=>Q3.B trivial (fun _ _ _ _ _=>bk2 (t:=216) X3 (fun S u0 u1 k0=>by kernel_rfl) a x key) (B3 a x (.int 0) .none key)
    f3k3:=fun a x lo key=>Q3.B trivial (fun _ _ _ _ _=>bk3 X3 (fun S u0 u1 u2 k0=>by kernel_rfl) a x lo key) (B3 a x lo .none key)
    f3n2:=fun a x=>Q3.B trivial (fun _ _ _ _ _=>bn2 (t:=216) X3 (fun S u0 u1=>by kernel_rfl) a x) (B3 a x (.int 0) .none .none)
    f3n4:=fun a x lo hi=>Q3.B trivial (fun _ _ _ _ _=>bn4 X3 (fun S u0 u1 u2 u3=>by kernel_rfl) a x lo hi) (B3 a x lo hi .none)
    f11t:=fun p tag t kn kv h1 h2 h3 h4 h5=>Q11.X (fun _ _ _ _ _=>bxt rfl (hO 8 _ _ rfl) rfl rfl rfl rfl rfl rfl p tag t kn kv h1 h2 h3 h4 h5) (fun n=>.ok (i:=0) (by rfl) rfl (.ok (i:=1) (by rfl) rfl (.ok (i:=2) (by rfl) rfl (.ok (i:=3) (by rfl) rfl .nil))))
    dsrc:=qu4 (hO 9 _ _ rfl) ⟨rfl,rfl,rfl⟩ rfl rfl
    f11d:=fun p tag kn kv h1 h2 h3 h4 h5=>Q11.X (fun _ _ _ _ _=>bxd rfl (hO 8 _ _ rfl) rfl rfl rfl rfl rfl rfl p tag kn kv h1 h2 h3 h4 h5) (fun n=>.ok (i:=0) (by rfl) rfl (.ok (i:=1) (by rfl) rfl (.ok (i:=2) (by rfl) rfl (.ok (i:=3) (by rfl) rfl .nil))))
    f7:=fun v0 =>Q7.B trivial (fun _ _ _ _ _=>bp1 (fun S u0=>by kernel_rfl) v0) (.ok (i:=0) (by rfl) rfl (.nil))
    f8:=fun v0 =>Q8.B trivial (fun _ _ _ _ _=>bp1 (fun S u0=>by kernel_rfl) v0) (.ok (i:=0) (by rfl) rfl (.nil))
    f10:=fun v0 =>Q10.B trivial (fun _ _ _ _ _=>bp1 (fun S u0=>by kernel_rfl) v0) (.ok (i:=0) (by rfl) rfl (.nil))
    f13:=fun v0 v1 h0 h1=>Q13.B trivial (fun _ _ _ _ _=>bp2 (fun S u0 u1=>by kernel_rfl) v0 v1) (.pl (i:=0) h0 rfl (.inr rfl) (.pl (i:=1) h1 rfl (.inr rfl) (.nil)))
    f14:=fun v0 v1 =>Q14.B trivial (fun _ _ _ _ _=>bp2 (fun S u0 u1=>by kernel_rfl) v0 v1) (.ok (i:=0) (by rfl) rfl (.ok (i:=1) (by rfl) rfl (.nil)))
    f15:=fun v0 h0=>Q15.B trivial (fun _ _ _ _ _=>bp1 (fun S u0=>by kernel_rfl) v0) (.pl (i:=0) h0 rfl (.inl rfl) (.nil))
    f16:=fun v0 =>Q16.B trivial (fun _ _ _ _ _=>bp1 (fun S u0=>by kernel_rfl) v0) (.ok (i:=0) (by rfl) rfl (.nil))
    f17:=fun v0 v1 =>Q17.B K17 (fun _ _ _ _ _=>bp2 (fun S u0 u1=>by kernel_rfl) v0 v1) (.ok (i:=0) (by rfl) rfl (.ok (i:=1) (by rfl) rfl (.nil)))
    f18:=fun v0 v1 =>Q18.B K18 (fun _ _ _ _ _=>bp2 (fun S u0 u1=>by kernel_rfl) v0 v1) (.ok (i:=0) (by rfl) rfl (.ok (i:=1) (by rfl) rfl (.nil)))
    f19:=fun v0 =>Q19.B trivial (fun _ _ _ _ _=>bp1 (fun S u0=>by kernel_rfl) v0) (.ok (i:=0) (by rfl) rfl (.nil))
    f20:=fun v0 v1 v2 h0 h1 h2=>Q20.B trivial (fun _ _ _ _ _=>bp3 (fun S u0 u1 u2=>by kernel_rfl) v0 v1 v2) (.pl (i:=0) h0 rfl (.inr rfl) (.pl (i:=1) h1 rfl (.inl rfl) (.pl (i:=2) h2 rfl (.inr rfl) (.nil))))
    f21:=fun v0 v1 h0 h1=>Q21.B trivial (fun _ _ _ _ _=>bp2 (fun S u0 u1=>by kernel_rfl) v0 v1) (.pl (i:=0) h0 rfl (.inl rfl) (.pl (i:=1) h1 rfl (.inr rfl) (.nil)))
    f22:=fun v0 h0=>Q22.B K22 (fun _ _ _ _ _=>bp1 (fun S u0=>by kernel_rfl) v0) (.pl (i:=0) h0 rfl (.inr rfl) (.nil))
    }
end
section
noncomputable def yf (s:Al):qun:=qmq tbN tbF tbA chk s
noncomputable def ya (w:World):qun:=qsu tbN tbF tbO w
theorem fin {s0 s1a:Al}{mg mb:Str->Option Value}{fa:Addr}{vals:List Value}{ns:List Int}{c:ClaimW}{cl:Str->Option Addr}{mean:ExcName->Option Value}{args:List WData}(Y:yf s0=ya w)(hk:∀b o,s0.heap.get? b=some o->s1a.heap.get? b=some o)(hg:s1a.gens=#[])(g:s1a.heap.Ns Bk mg)(b:s1a.heap.Ns Bm mb)(nl:s1a.heap.NoLimit)(cs:∃mc,s1a.heap.Ns cStatics mc/\mc "sys.int_max_str_digits" = none)(hB:∀x:Str,x≠"__name__"->mb x=bootBuiltins x)(bm:∃bm ob,mg "__builtins__" = some (.ref bm)/\bm≠Bm/\s1a.heap.get? bm=some ob/\ob.cls=.type "module"/\ob.dict=some Bm/\ob.data=.plain)(hmg:mg "law" = some (.ref fa))(ho:s1a.heap.get? a=some { cls:=.type "list",data:=.seq vals.toArray })(hI:IntsAre vals ns)(hz:ns.length<=63)(hr:∀cls,c.raises args cls=false)(hp:c.post args (.bool true) args=true)(E:Value->Al->Prop):
    wpAny (model P3 w) callerA (call (.ref fa) [.ref a]) (fun v s'=>GoodWG c cl mean args s1a (.ok (.ret v)) s') E s1a:=by
  obtain ⟨y1,y2,y3,y4⟩:=qmp (os:=tbO w.params) (as:=tbA) (by rfl) Y;have y5:=(AJ.mp (AJ.mp y4).2).2;have hS:∃o,s1a.heap.get? Cp=some o:=by
    obtain ⟨o,h⟩:=Option.isSome_iff_exists.mp y5;exact ⟨o,hk _ _ h⟩
  have hM:∃o,s0.heap.get? Bk=some o:=by
    cases hq:s0.heap.get? Bk with
    | some o=>exact ⟨o,rfl⟩
    | none=>
      have h1:=y1 0 _ _ rfl;unfold Heap.nsMap at h1;rw[hq] at h1;cases h1
  have hN:∀(i:Nat) (x:Str) (v:Option Value),tbN[i]?=some (x,v)->mg x=v:=fun i x v h=>by
    rw[g.eq_nsMap,qlp hk hM];exact y1 i x v h
  have hF:∀(i:Nat) (a:Addr) (v:FView),tbF[i]?=some (a,v)->qsf (s1a.heap.get? a)=some v:=fun i a v h=>by
    have h1:=y2 i a v h;obtain ⟨o,n,doc,pm,an,ct,h2,h3⟩:=qis h1;rw[hk a o h2,<- h2];exact h1
  have hC:chk s1a.heap=true:=by
    obtain ⟨c1,c2⟩:=AJ.mp y4;refine AJ.mpr ⟨BZ.mpr fun x hx=>qm3 hk (BZ.mp c1 x hx),AJ.mpr ⟨?_,?_⟩⟩
    . have h1:=(AJ.mp c2).1;exact qjf hk h1
    . obtain ⟨o,h⟩:=hS;rw[h];rfl
  obtain ⟨W,rfl,rfl,rfl,rfl,hP,ht⟩:=qr8 P3 w s1a mg mb g b nl cs hS;have F:Fac W:=qu0 hN hB hF (fun i a o h=>hk a o (y3 i a o h)) hC ht bm;have hfa:fa=A22:=by
    have:=F.g_law;rw[hmg] at this;cases this;rfl
  subst hfa;have:=qpu (c:=c) (cl:=cl) (mean:=mean) (args:=args) (qnp F hz 0) (by decide) hg ho hI ht hr hp E;rw[hP] at this;exact this
end
end Mine
open PySem.W.X Mine
set_option maxHeartbeats 8000000 in
theorem PySem.Challenge.cw_wb0045_02_holds : PySem.Challenge.rw_wb0045_02.Holds := by
  w_on
  refine holds_law (by kernel_rfl) fun said=>?_
  refine holds_openX (q:=Qv) (loose:=Lv0) (Xt:=fun s=>xlAt Qv [] s&&recOk (RowW.records PySem.Challenge.rw_wb0045_02.row.toRowW) s) (XP:=XL Qv []) (Yf:=yf) (Ya:=ya) (N:=2000) ?hl (fun s e=>xl_of s (AJ.mp e).1) XL.keeps (by rfl) (by rfl) (by rfl) (fun s e=>recFacts_of (AJ.mp e).2) (by rfl) said (by decide +kernel) ⟨rfl,rfl,rfl,rfl,rfl,by decide +kernel⟩ ?hw ?hc;case hw=>w_witness2
  case hl=>exact LeftO.of_split "special-get-raises" (fun w=>by kernel_rfl)
  intro w s0 s1a mg mb G Y fa o pm cd doc dV kV ho hd hcd hD hmg hg args vals as L hpre hlay hrd hwl hlo;refine Ground.open G ?_;intro T B D TE TW
  wrow_args hpre hlay hrd hwl hlo
  obtain ⟨hat,hsz⟩:=script_at L;subst hat
  rename IntsAre _ _=>hI
  rename Heap.IsList _ _ _=>hL
  have hol:=script_obj L hL;refine fin Y L.keeps hg T.g T.b T.nolimit T.nodigits T.builtins T.bmain hmg hol hI ?_ (fun _=>rfl) ?_ _
  . omega
  . wrow_post
