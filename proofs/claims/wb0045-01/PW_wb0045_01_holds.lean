import PyProof.Rows.All
import Wide.All
import OpenK.AllK
import Wide.FinOn
import KE.KSortTup
import KE.KBits
import KE.BitLaws
import PySem.Challenge.RW_wb0045_01
open And renaming elim → AC, intro → Hb
open Array renaming length_toList → Az, getElem?_toList → BB, getElem?_eq_some_iff → Cm, getElem?_eq_getElem → Dg, toList_push → Dp, toList_append → Ej, mem_iff_getElem → EX, any_eq_false' → FB, getD_eq_getD_getElem? → FG
open Bool renaming and_eq_true_iff → Ay, and_eq_true → AH, false_ne_true → AL, false_eq_true → Bj, eq_iff_iff → B0, noConfusion → CB, xor_false → C1, false_and → DD, and_false → D7, true_and → Eo, false_or → Fc
open Classical renaming byContradiction → Df
open Exists renaming elim → Ap
open ForInStep renaming yield → Ch
open Int renaming le_of_lt → AU, natCast_nonneg → BA, le_refl → Ca, le_trans → CE, not_lt → CP, fmod_nonneg_of_pos → CX, fdiv_eq_ediv_of_nonneg → Dc, eq_ofNat_of_zero_le → Dz, mul_le_mul_of_nonneg_right → DA, lt_of_le_of_lt → DH, toNat_natCast → DY, mul_neg_of_neg_of_pos → Ed, ediv_nonneg → Eu, fmod_lt_of_pos → Ew, lt_or_eq_of_le → Ez, ofNat_le → EK, zero_add → EL, mul_zero → EN, lt_irrefl → Fb, mul_le_mul_of_nonneg_left → Fg, max_eq_left → Fo, natCast_pos → Fq, toNat_of_nonneg → FC, add_zero → FD, lt_of_lt_of_le → FK, fmod_eq_emod_of_nonneg → FY, add_assoc → Gg, max_eq_right → Go, lt_trans → Gy, ofNat_lt → Gz, mul_comm → GA, zero_mul → GD, pow_succ → GL, ne_of_gt → GM, le_antisymm → GN, not_le → He
open Int.ofNat renaming inj → Gh
open LawfulBEq renaming eq_of_beq → EI
open List renaming mem_cons_self → Ac, range → Ae, length_map → Ah, getElem?_eq_getElem → Aj, mem_cons_of_mem → Ak, length_append → An, getElem?_map → Ao, getElem?_eq_some_iff → Ar, mem_range → Au, mem_of_getElem? → Av, mem_cons → Aw, mem_singleton → AE, append_assoc → AF, pairwise_cons → AG, append_nil → AO, contains_iff_mem → AQ, replicate → AR, map_append → AT, length_range → AW, getElem?_set_ne → AX, mem_append_right → AY, lookup_cons → AZ, length_singleton → Ba, mem_append_left → Bf, mem_map → Bg, mem_filter → Bi, zip_cons_cons → Bl, map_cons → Bp, flatten_cons → Bs, length_cons → Bu, length_set → Bv, mem_flatten → BD, getElem?_replicate → BE, getD_eq_getElem?_getD → BF, flatMap_cons → BH, getElem?_append_left → BI, getElem?_set_self → BK, map_map → BL, not_mem_nil → BN, sublist_append_left → BO, all_eq_true → BP, length_filter_le → BQ, toArray → BS, pairwise_append → BU, getElem?_append_right → BX, mem_append → BZ, pairwise_iff_getElem → B8, size_toArray → Cb, sum_cons → Ce, forIn_cons → Cg, pairwise_lt_range → Cj, take_append_drop → Cu, length_take → CD, nodup_append → CM, length_zip → CR, flatten_append → CS, map_congr_left → CT, perm_ext_iff_of_nodup → C2, forIn_nil → C5, getElem?_eq_none → Dd, sublist_append_right → De, nil_append → Dh, length_nil → Dk, set_set → Dr, getElem?_range → Dy, nodup_range → DC, getElem?_drop → DJ, take_of_length_le → DK, range_succ → DN, filter_congr → DW, getElem?_of_mem → D6, mem_iff_getElem → D9, map_eq_nil_iff → Eh, replicate_succ → Ek, nodup_cons → Es, pairwise_singleton → EH, filter_eq_nil_iff → EM, pairwise_map → EO, cons_append → EZ, any_eq_true → E8, set_comm → Fe, map_take → Ff, getElem?_zipIdx → Fk, foldl_cons → Fs, find?_cons → Fw, filterMap_cons → FA, exists_mem_of_ne_nil → F0, mem_or_eq_of_mem_set → F8, getElem?_set → Ge, map_inj_left → Gf, Perm → Gq, mem_flatMap → Gr, flatMap_nil → Gw, map → Gx, Sublist → GC, of_mem_zip → GP
open List.Pairwise renaming imp_of_mem → En
open Min renaming min → Hc
open Nat renaming le_trans → Af, lt_of_lt_of_le → Ag, le_refl → Aq, zero_le → AJ, le_of_lt_succ → AM, le_add_right → A5, not_lt → A9, lt_trans → Bc, le_of_lt → Bm, le_of_eq → Bn, pow_le_pow_right → Bq, testBit_lt_two_pow → Bw, ne_of_lt → BC, succ_pos → B6, lt_or_ge → B7, le_of_ble_eq_true → Cd, not_lt_zero → Cf, le_antisymm → Ci, le_add_left → Cr, lt_of_le_of_lt → Cv, lt_succ_self → Cw, ne_of_gt → CF, succ_add_eq_add_succ → CG, eq_of_testBit_eq → CI, lt_add_of_pos_right → CO, add_sub_cancel' → CU, lt_of_succ_lt_succ → CZ, lt_irrefl → C0, lt_or_eq_of_le → C3, le_succ → Dn, lt_succ_of_le → Dq, zero_testBit → DB, not_le → DI, eq_or_lt_of_le → DL, add_right_comm → DM, beq → DV, le_succ_of_le → D3, lt_succ_of_lt → D4, lt_pow_two_of_testBit → Ee, add_left_cancel → Ef, testBit_two_pow → Eg, eq_zero_or_pos → Ey, eq_of_beq_eq_true → EY, succ_le_succ → E0, succ_lt_succ → Fa, min_eq_left → Fp, testBit_two_pow_sub_one → FE, testBit_or → FJ, min_le_right → Gn, min_eq_right → Gp, zero_add → GE, sub_self → GK
open Ne renaming symm → B5
open PUnit renaming unit → Ck
open Prod.mk renaming inj → GX
open PyProof.Rows renaming mirror_perm → Fl, seqObj → Fy, listUpdate_at → Gm, get?_update_seq → GQ, tail_any → GV, IntsAre → Hn, bubble → Hp
open PySem renaming wpAny_bind → Aa, Shared → Ab, wpAny_pure → Ad, sizeLine → Ai, Builtin → Ax, NameKind → AA, sizeLine_eq → AB, wpAny_mono → AD, wpAny_holding → AK, wpAny_standAt → AS, typeLookup → A6, mainGlobals → Br, builtinsNs → Bt, wpAny_newObj_type → Bx, foldedSetIterable → BG, Around → BJ, builtinLookup_eq_fast → BR, FuncData → BV, isSubtype_type → BY, PyData → B9, sliceBounds → Cc, codeAny → Cn, wpAny_field → Cq, sysModules → Cy, compareOp → Cz, wpAny_execs_cons → CA, binaryOp → CJ, wpAny_bindName → CK, codeAny_call_builtin → CL, typeLookup_type → CQ, starEach → CV, wpAny_Assign_stores → CW, assignEach → C4, wpAny_Call_Name_kw → C6, rawInt → C7, wpAny_seqItems → C8, getattributeRaised → C9, slot_listiter_next → Db, seqIndex? → Di, DictEntry → Dj, keywordEach → Dm, wpAny_onRaise → Ds, Program → Dw, standAt → Dx, wpAny_callSpecial?_slot → DE, bindArgs → DF, codeAny_of_tree → DO, wpAny_specialOf → DP, Comprehension → DQ, swappedStores → DR, codeAny_call_function → DU, notedBy → DZ, holding → Ea, wpAny_call_entry → Eb, getAttrBy → Ec, baseText → Er, letOwnedTupleGo → Et, wpAny_load → EC, wpAny_setField_rec → EE, sub_AttributeError → EF, call_meets → EG, isCodeTable → EJ, IsPair → ET, wpAny_setField → EU, wpAny_dictEntries → EV, Arguments → E4, codeAmong → E5, sliceRange → E6, wpAny_isInstance → E7, wpAny_call → E9, wpAny_loadName_local → Fh, IntMulOk → Fi, bindName → Fj, backTo → Ft, wpAny_execs_nil → Fu, storeName → FH, isSubtype → FI, wpAny_Name → FL, aRefKeyMayBeTheNameByArray → FM, backToKw → FO, wpAny_rule → FP, firstArgMember → FQ, constantsAlone → FS, GenState → FT, am_entry_list_getattribute → FU, wpAny_truthy_bool → F9, wpAny_of_eq → Gb, wpAny_pyIter_list → Gc, getMethod_builtin → Gd, swapsWithSole → Gj, foldedForSure → Gk, wpAny_pyIter_zip → Gu, entryFor_of_fast → Gv, argsOk → GF, codeAny_func → GI, mergeMapping → GJ, theTreesLotGoes → GO, recursionLimit → GR, BoolOp → GS, evalEach → GT, subscripted → GU, wpAny_alloc → GY, newFunctionEnv → GZ, wpAny_nsGet → G1, entryFor → G2, merged → G3, unsupported → G6, assignAll → G7, Keyword → G8, seqItems? → G9, noteFrame → Ha, valueAt → Hd, cellOf → Hf, pyIter → Hg, stored → Hh, keeperOf → Hj, relabel → Hk, getAttr → Hl, setAttr → Hm, Result → Ho
open PySem.Bind renaming checkArgs → G5
open PySem.Builtin renaming bitAnd → AN, bitXor → Da, bitOr → Du, bitNot → EW
open PySem.Builtin.List renaming listTooLong → Ep, listFitsIndex → FV
open PySem.Builtin.Range renaming rangeSize → CN
open PySem.Builtin.SmallTypes renaming nextOf → Ct
open PySem.DictEntry renaming refKey → Gs
open PySem.Env renaming blockKind → Gi
open PySem.Heap renaming get?_push_size → Al, get?_push_of_some → Am, SameBut → AI, get?_update_self → Be, get?_none_of_le → BW, dictOf_iff → Cp, size_push → D8, get?_update_ne → Ei, lt_size → EQ, ExtBut → Ga, NewExcOf → Gl, MadeExcOf → G4, HeldW → Hi
open PySem.Heap.SameBut renaming update → Bb
open PySem.Keeper renaming boundFrame → DX, machine → ES, frame → FF
open PySem.Manifest renaming signature? → Em
open PySem.NameKind renaming free → Fd
open PySem.Obj renaming mapSeq → AP, data_mapFields → CC, isFreed_of_fields → DT, dropNameByArray → El, putNameByArray → ED, dropName_eq → Fx, putName_eq → FN, putName → GW
open PySem.PyData renaming strOk → Bz, depthAll → Fz, keyHash → FZ
open PySem.ScopeKind renaming isAnnotationScope → CY
open PySem.SeqAt renaming shaped → GG
open PySem.Str renaming ofString → Bh
open PySem.Txt renaming join → FW
open PySem.W renaming kas_rev → BM, kas_desc → Co, kas_descPart → CH, kas_tail3 → Dl, kas_place → DS, tabObj → EP, kas_sort → Fm, CodeHd → GH, callWith_of → G0
open PySem.W.KasT renaming ret → DG
open True renaming intro → Bo
open Bool renaming true → Hq, false → Hr
open Option renaming none → Dt, some → ER
open PySem renaming wpAny → Hs, Addr → Ht, model → Hu, Str → Hv, Value → Hw, strKind → Hx, intKind → Hy, Str → Hz, Env → HA
open PySem PySem.W PyProof.Rows
set_option maxRecDepth 100000
set_option linter.all false
set_option Elab.async false
set_option compiler.extract_closed false
set_option genSizeOf false
set_option genSizeOfSpec false
namespace Mine
theorem ap0 (_:True:=by intros;with_unfolding_all rfl):True:=trivial
theorem ap1 (_:True:=by decide):True:=trivial
theorem ap2 (_:True:=by with_unfolding_all exact Cd rfl):True:=trivial
theorem ap3 (_:True:=by with_unfolding_all repeat constructor):True:=trivial
theorem ap4 (_:True:=by with_unfolding_all exact np):True:=trivial
theorem qb9 {n a b:Nat}(h : DV a b = Hr): n+a ≠ n+b := λe => absurd (Ef e) (Nat.ne_of_beq_eq_false h)
theorem orB {a b:Bool}(h : (a || !b) = Hq): a = Hq \/ b = Hr := by cases a with
  | true => exact .inl rfl
  | false => cases b with
    | true => exact nomatch h
    | false => exact .inr rfl
theorem ln0 {α:Type}{l:List α}(h : l.length = 0): l = [] := List.eq_nil_of_length_eq_zero h
theorem lnS {α:Type}{n:Nat}{l:List α}(h : l.length = n+1): ∃ a r, l = a::r /\ r.length = n :=
  match l, h with
  | a::r, h => ⟨a, r, rfl, Nat.succ.inj h⟩
theorem ln1 {α:Type}{l:List α}(h : l.length = 1): ∃ a, l = [a] := let ⟨a, _, e, q⟩ := lnS h; ⟨a, e.trans (congrArg (a :: ·) (ln0 q))⟩
theorem ln2 {α:Type}{l:List α}(h : l.length = 2): ∃ a b, l = [a, b] := let ⟨a, _, e, q⟩ := lnS h; let ⟨b, f⟩ := ln1 q; ⟨a, b, e.trans (congrArg (a :: ·) f)⟩
theorem ln3 {α:Type}{l:List α}(h : l.length = 3): ∃ a b c, l = [a, b, c] := let ⟨a, _, e, q⟩ := lnS h; let ⟨b, c, f⟩ := ln2 q; ⟨a, b, c, e.trans (congrArg (a :: ·) f)⟩
theorem ln4 {α:Type}{l:List α}(h : l.length = 4): ∃ a b c d, l = [a, b, c, d] := let ⟨a, _, e, q⟩ := lnS h; let ⟨b, c, d, f⟩ := ln3 q; ⟨a, b, c, d, e.trans (congrArg (a :: ·) f)⟩
theorem fa0 {α:Type}{P:α->Prop}: ∀ x ∈ ([] : List α), P x := λ_ h => absurd h BN
theorem fac {α:Type}{P:α->Prop}{a:α}{l:List α}(h : P a)(t : ∀ x ∈ l, P x): ∀ x ∈ a::l, P x := List.forall_mem_cons.mpr ⟨h, t⟩
theorem qx1 {a f b:Nat}(h : f <= b): f <= min (max a f) b := Nat.le_min.mpr ⟨Nat.le_max_right _ _, h⟩
theorem qx0 {a f b:Nat}: min (max a f) b <= b := Gn _ _
theorem qvt {a f b j:Nat}(h1 : f <= j)(h2 : j<b): j<min (max a f) b ↔ j<a := by
  rw[Nat.lt_min, and_iff_left h2];rcases Nat.le_total a f with h | h
  . rw[Nat.max_eq_right h]; exact ⟨λq => absurd q (A9.mpr h1), λq => Ag q h⟩
  . rw[Nat.max_eq_left h]
theorem qwc {a f b j:Nat}(h1 : f <= j)(h2 : j<b): min (max a f) b <= j ↔ a <= j := A9.symm.trans ((not_congr (qvt h1 h2)).trans A9)
theorem qx5 (a f : Nat): max (a : Int) f = (max a f : Nat) := by
  rcases Nat.le_total a f with h | h
  . rw[Nat.max_eq_right h]; exact Go (EK.mpr h)
  . rw[Nat.max_eq_left h]; exact Fo (EK.mpr h)
theorem qx4 (a f : Nat): min (a : Int) f = (min a f : Nat) := by
  rcases Nat.le_total a f with h | h
  . rw[Fp h]; exact Int.min_eq_left (EK.mpr h)
  . rw[Gp h]; exact Int.min_eq_right (EK.mpr h)
theorem mmI (a f b : Nat): min (max (a : Int) f) b = ((min (max a f) b : Nat) : Int) := (congrArg (min · (b : Int)) (qx5 a f)).trans (qx4 _ _)
theorem szl {n m:Nat}(h : n <= m)(hm:autoParam (Nat.ble m PySem.sizeLine = Hq) ap1._auto_1): n <= PySem.sizeLine := Af h (Cd hm)
theorem qwf {a b a' b':Int}(h : a<b \/ (a = b /\ a'<b')): ¬ (b<a \/ (b = a /\ b'<a')) := λq => by
  rcases h with h | ⟨h, h'⟩
  . exact q.elim (Int.lt_asymm h) λq => absurd h (q.1 ▸ Fb _)
  . exact q.elim (λq => absurd q (h ▸ Fb _)) λq => Int.lt_asymm h' q.2
theorem qwd {a b c a' b' c':Int}(h : a<b \/ (a = b /\ a'<b'))(k : b<c \/ (b = c /\ b'<c')): a<c \/ (a = c /\ a'<c') := by
  rcases h with h | ⟨rfl, h'⟩
  . exact .inl (k.elim (Gy h) λq => q.1 ▸ h)
  . exact k.imp_right λq => ⟨q.1, Gy h' q.2⟩
theorem qwe {a b c a' b' c':Int}(h : a<c \/ (a = c /\ a'<c')): (a<b \/ (a = b /\ a'<b')) \/ (b<c \/ (b = c /\ b'<c')) := by
  rcases Int.lt_trichotomy a b with q | q | q
  . exact .inl (.inl q)
  . subst q;rcases Int.lt_or_le a' b' with w | w
    . exact .inl (.inr ⟨rfl, w⟩)
    . exact .inr (h.imp_right λz => ⟨z.1, DH w z.2⟩)
  . exact .inr (.inl (h.elim (Gy q) λz => z.1 ▸ q))
theorem qpp {x:Int}{n:Nat}(h : 0<n): ∃ m : Nat, x.fmod n = m /\ m<n := by
  have h' : (0 : Int)<n := Fq.mpr h;obtain ⟨m, hm⟩ := Dz (CX x h');exact ⟨m, hm, Gz.mp (hm ▸ Ew x h')⟩
theorem qw5 (o : Nat): (0 : Int)+(o : Nat)*1 = (o : Nat) := by rw[Int.mul_one, EL]
theorem qwz (n : Nat): (1 : Int)+(n : Nat)*1 = ((n+1 : Nat) : Int) := by rw[Int.mul_one, Int.add_comm]; rfl
theorem Sj {α:Type}{a b:α}(h:ER a=ER b):a=b:=Option.some.inj h
section
variable {G:Prop} {A B C D E F G_ H I:Type}
variable {P0 P1 P2 P3 P4 P5 P6 P7:Prop}
variable {Q0 Q1 Q2 Q3 Q4:A->Prop}
variable {R0 R1 R2 R3 R4 R5:A->B->Prop}
variable {S0 S1 S2 S3 S4 S5 S6 S7 S8:A->B->C->Prop}
variable {T0 T1 T2 T3 T4 T5 T6:A->B->C->D->Prop}
variable {U0 U1 U2 U3 U4 U5 U6 U7 U8:A->B->C->D->E->Prop}
variable {V0 V1:A->B->C->D->E->F->Prop}
variable {W0 W1 W2 W3 W4 W5 W6 W7 W8 W9:A->B->C->D->E->F->G_->Prop}
variable {Y0 Y1 Y2 Y3 Y4:A->B->C->D->E->F->G_->H->I->Prop}
theorem qgb (h:P0/\P1/\P2) (k:P0->P1->P2->G):G:=k h.1 h.2.1 h.2.2
theorem qrk (h:P0/\P1/\P2/\P3) (k:P0->P1->P2->P3->G):G:=k h.1 h.2.1 h.2.2.1 h.2.2.2
theorem qn7 (h:P0/\P1/\P2/\P3/\P4/\P5/\P6/\P7) (k:P0->P1->P2->P3->P4->P5->P6->P7->G):G:=k h.1 h.2.1 h.2.2.1 h.2.2.2.1 h.2.2.2.2.1 h.2.2.2.2.2.1 h.2.2.2.2.2.2.1 h.2.2.2.2.2.2.2
theorem qh3 (h:P0/\P1/\P2/\∃a b c d e,U0 a b c d e/\U1 a b c d e/\U2 a b c d e/\U3 a b c d e) (k:P0->P1->P2->∀a b c d e,U0 a b c d e->U1 a b c d e->U2 a b c d e->U3 a b c d e->G):G:=h.2.2.2.elim λa h0=>h0.elim λb h1=>h1.elim λc h2=>h2.elim λd h3=>h3.elim λe h4=>k h.1 h.2.1 h.2.2.1 a b c d e h4.1 h4.2.1 h4.2.2.1 h4.2.2.2
theorem qgc (h:P0/\P1/\P2/\∃a b c d e,U0 a b c d e/\U1 a b c d e/\U2 a b c d e/\U3 a b c d e/\U4 a b c d e) (k:P0->P1->P2->∀a b c d e,U0 a b c d e->U1 a b c d e->U2 a b c d e->U3 a b c d e->U4 a b c d e->G):G:=h.2.2.2.elim λa h0=>h0.elim λb h1=>h1.elim λc h2=>h2.elim λd h3=>h3.elim λe h4=>k h.1 h.2.1 h.2.2.1 a b c d e h4.1 h4.2.1 h4.2.2.1 h4.2.2.2.1 h4.2.2.2.2
theorem qe9 (h:P0/\P1/\P2/\∃a b c d e,U0 a b c d e/\U1 a b c d e/\U2 a b c d e/\U3 a b c d e/\U4 a b c d e/\U5 a b c d e/\U6 a b c d e/\U7 a b c d e/\U8 a b c d e) (k:P0->P1->P2->∀a b c d e,U0 a b c d e->U1 a b c d e->U2 a b c d e->U3 a b c d e->U4 a b c d e->U5 a b c d e->U6 a b c d e->U7 a b c d e->U8 a b c d e->G):G:=h.2.2.2.elim λa h0=>h0.elim λb h1=>h1.elim λc h2=>h2.elim λd h3=>h3.elim λe h4=>k h.1 h.2.1 h.2.2.1 a b c d e h4.1 h4.2.1 h4.2.2.1 h4.2.2.2.1 h4.2.2.2.2.1 h4.2.2.2.2.2.1 h4.2.2.2.2.2.2.1 h4.2.2.2.2.2.2.2.1 h4.2.2.2.2.2.2.2.2
theorem qtq (h:P0/\∃a,Q0 a/\Q1 a) (k:P0->∀a,Q0 a->Q1 a->G):G:=h.2.elim λa h0=>k h.1 a h0.1 h0.2
theorem qvs (h:P0/\∃a b,R0 a b) (k:P0->∀a b,R0 a b->G):G:=h.2.elim λa h0=>h0.elim λb h1=>k h.1 a b h1
theorem qp3 (h:P0/\∃a b,R0 a b/\R1 a b/\R2 a b/\R3 a b) (k:P0->∀a b,R0 a b->R1 a b->R2 a b->R3 a b->G):G:=h.2.elim λa h0=>h0.elim λb h1=>k h.1 a b h1.1 h1.2.1 h1.2.2.1 h1.2.2.2
theorem qp2 (h:P0/\∃a b c,S0 a b c/\S1 a b c/\S2 a b c) (k:P0->∀a b c,S0 a b c->S1 a b c->S2 a b c->G):G:=h.2.elim λa h0=>h0.elim λb h1=>h1.elim λc h2=>k h.1 a b c h2.1 h2.2.1 h2.2.2
theorem qa4 (h:∃a,Q0 a/\Q1 a) (k:∀a,Q0 a->Q1 a->G):G:=h.elim λa h0=>k a h0.1 h0.2
theorem qaj (h:∃a,Q0 a/\Q1 a/\Q2 a) (k:∀a,Q0 a->Q1 a->Q2 a->G):G:=h.elim λa h0=>k a h0.1 h0.2.1 h0.2.2
theorem qbl (h:∃a,Q0 a/\Q1 a/\Q2 a/\Q3 a) (k:∀a,Q0 a->Q1 a->Q2 a->Q3 a->G):G:=h.elim λa h0=>k a h0.1 h0.2.1 h0.2.2.1 h0.2.2.2
theorem qew (h:∃a,Q0 a/\Q1 a/\Q2 a/\Q3 a/\Q4 a) (k:∀a,Q0 a->Q1 a->Q2 a->Q3 a->Q4 a->G):G:=h.elim λa h0=>k a h0.1 h0.2.1 h0.2.2.1 h0.2.2.2.1 h0.2.2.2.2
theorem qtp (h:∃a,Q0 a/\∃b,R0 a b) (k:∀a,Q0 a->∀b,R0 a b->G):G:=h.elim λa h0=>h0.2.elim λb h1=>k a h0.1 b h1
theorem qcy (h:∃a,Q0 a/\∃b,R0 a b/\R1 a b/\R2 a b) (k:∀a,Q0 a->∀b,R0 a b->R1 a b->R2 a b->G):G:=h.elim λa h0=>h0.2.elim λb h1=>k a h0.1 b h1.1 h1.2.1 h1.2.2
theorem qjb (h:∃a,Q0 a/\∃b c,S0 a b c/\S1 a b c) (k:∀a,Q0 a->∀b c,S0 a b c->S1 a b c->G):G:=h.elim λa h0=>h0.2.elim λb h1=>h1.elim λc h2=>k a h0.1 b c h2.1 h2.2
theorem qja (h:∃a,Q0 a/\∃b c d e,U0 a b c d e/\U1 a b c d e/\U2 a b c d e/\U3 a b c d e) (k:∀a,Q0 a->∀b c d e,U0 a b c d e->U1 a b c d e->U2 a b c d e->U3 a b c d e->G):G:=h.elim λa h0=>h0.2.elim λb h1=>h1.elim λc h2=>h2.elim λd h3=>h3.elim λe h4=>k a h0.1 b c d e h4.1 h4.2.1 h4.2.2.1 h4.2.2.2
theorem qh2 (h:∃a,Q0 a/\∃b c d e,U0 a b c d e/\U1 a b c d e/\U2 a b c d e/\U3 a b c d e/\U4 a b c d e/\U5 a b c d e) (k:∀a,Q0 a->∀b c d e,U0 a b c d e->U1 a b c d e->U2 a b c d e->U3 a b c d e->U4 a b c d e->U5 a b c d e->G):G:=h.elim λa h0=>h0.2.elim λb h1=>h1.elim λc h2=>h2.elim λd h3=>h3.elim λe h4=>k a h0.1 b c d e h4.1 h4.2.1 h4.2.2.1 h4.2.2.2.1 h4.2.2.2.2.1 h4.2.2.2.2.2
theorem qkm (h:∃a b,R0 a b) (k:∀a b,R0 a b->G):G:=h.elim λa h0=>h0.elim λb h1=>k a b h1
theorem qcs (h:∃a b,R0 a b/\R1 a b) (k:∀a b,R0 a b->R1 a b->G):G:=h.elim λa h0=>h0.elim λb h1=>k a b h1.1 h1.2
theorem qa2 (h:∃a b,R0 a b/\R1 a b/\R2 a b) (k:∀a b,R0 a b->R1 a b->R2 a b->G):G:=h.elim λa h0=>h0.elim λb h1=>k a b h1.1 h1.2.1 h1.2.2
theorem qaz (h:∃a b,R0 a b/\R1 a b/\R2 a b/\R3 a b) (k:∀a b,R0 a b->R1 a b->R2 a b->R3 a b->G):G:=h.elim λa h0=>h0.elim λb h1=>k a b h1.1 h1.2.1 h1.2.2.1 h1.2.2.2
theorem qan (h:∃a b,R0 a b/\R1 a b/\R2 a b/\R3 a b/\R4 a b) (k:∀a b,R0 a b->R1 a b->R2 a b->R3 a b->R4 a b->G):G:=h.elim λa h0=>h0.elim λb h1=>k a b h1.1 h1.2.1 h1.2.2.1 h1.2.2.2.1 h1.2.2.2.2
theorem qdf (h:∃a b,R0 a b/\R1 a b/\R2 a b/\R3 a b/\R4 a b/\R5 a b) (k:∀a b,R0 a b->R1 a b->R2 a b->R3 a b->R4 a b->R5 a b->G):G:=h.elim λa h0=>h0.elim λb h1=>k a b h1.1 h1.2.1 h1.2.2.1 h1.2.2.2.1 h1.2.2.2.2.1 h1.2.2.2.2.2
theorem qn6 (h:∃a b,R0 a b/\R1 a b/\R2 a b/\∃c,S0 a b c/\S1 a b c) (k:∀a b,R0 a b->R1 a b->R2 a b->∀c,S0 a b c->S1 a b c->G):G:=h.elim λa h0=>h0.elim λb h1=>h1.2.2.2.elim λc h2=>k a b h1.1 h1.2.1 h1.2.2.1 c h2.1 h2.2
theorem qn5 (h:∃a b c,S0 a b c) (k:∀a b c,S0 a b c->G):G:=h.elim λa h0=>h0.elim λb h1=>h1.elim λc h2=>k a b c h2
theorem qbs (h:∃a b c,S0 a b c/\S1 a b c) (k:∀a b c,S0 a b c->S1 a b c->G):G:=h.elim λa h0=>h0.elim λb h1=>h1.elim λc h2=>k a b c h2.1 h2.2
theorem qap (h:∃a b c,S0 a b c/\S1 a b c/\S2 a b c) (k:∀a b c,S0 a b c->S1 a b c->S2 a b c->G):G:=h.elim λa h0=>h0.elim λb h1=>h1.elim λc h2=>k a b c h2.1 h2.2.1 h2.2.2
theorem qa1 (h:∃a b c,S0 a b c/\S1 a b c/\S2 a b c/\S3 a b c) (k:∀a b c,S0 a b c->S1 a b c->S2 a b c->S3 a b c->G):G:=h.elim λa h0=>h0.elim λb h1=>h1.elim λc h2=>k a b c h2.1 h2.2.1 h2.2.2.1 h2.2.2.2
theorem qe8 (h:∃a b c,S0 a b c/\S1 a b c/\S2 a b c/\S3 a b c/\S4 a b c) (k:∀a b c,S0 a b c->S1 a b c->S2 a b c->S3 a b c->S4 a b c->G):G:=h.elim λa h0=>h0.elim λb h1=>h1.elim λc h2=>k a b c h2.1 h2.2.1 h2.2.2.1 h2.2.2.2.1 h2.2.2.2.2
theorem qb1 (h:∃a b c,S0 a b c/\S1 a b c/\S2 a b c/\S3 a b c/\S4 a b c/\S5 a b c) (k:∀a b c,S0 a b c->S1 a b c->S2 a b c->S3 a b c->S4 a b c->S5 a b c->G):G:=h.elim λa h0=>h0.elim λb h1=>h1.elim λc h2=>k a b c h2.1 h2.2.1 h2.2.2.1 h2.2.2.2.1 h2.2.2.2.2.1 h2.2.2.2.2.2
theorem qbj (h:∃a b c,S0 a b c/\S1 a b c/\S2 a b c/\S3 a b c/\S4 a b c/\S5 a b c/\S6 a b c/\S7 a b c/\S8 a b c) (k:∀a b c,S0 a b c->S1 a b c->S2 a b c->S3 a b c->S4 a b c->S5 a b c->S6 a b c->S7 a b c->S8 a b c->G):G:=h.elim λa h0=>h0.elim λb h1=>h1.elim λc h2=>k a b c h2.1 h2.2.1 h2.2.2.1 h2.2.2.2.1 h2.2.2.2.2.1 h2.2.2.2.2.2.1 h2.2.2.2.2.2.2.1 h2.2.2.2.2.2.2.2.1 h2.2.2.2.2.2.2.2.2
theorem qbp (h:∃a b c,S0 a b c/\S1 a b c/\S2 a b c/\S3 a b c/\S4 a b c/\S5 a b c/\S6 a b c/\∃d e,U0 a b c d e/\U1 a b c d e/\U2 a b c d e/\U3 a b c d e) (k:∀a b c,S0 a b c->S1 a b c->S2 a b c->S3 a b c->S4 a b c->S5 a b c->S6 a b c->∀d e,U0 a b c d e->U1 a b c d e->U2 a b c d e->U3 a b c d e->G):G:=h.elim λa h0=>h0.elim λb h1=>h1.elim λc h2=>h2.2.2.2.2.2.2.2.elim λd h3=>h3.elim λe h4=>k a b c h2.1 h2.2.1 h2.2.2.1 h2.2.2.2.1 h2.2.2.2.2.1 h2.2.2.2.2.2.1 h2.2.2.2.2.2.2.1 d e h4.1 h4.2.1 h4.2.2.1 h4.2.2.2
theorem qdp (h:∃a b c d,T0 a b c d/\T1 a b c d/\T2 a b c d) (k:∀a b c d,T0 a b c d->T1 a b c d->T2 a b c d->G):G:=h.elim λa h0=>h0.elim λb h1=>h1.elim λc h2=>h2.elim λd h3=>k a b c d h3.1 h3.2.1 h3.2.2
theorem qcr (h:∃a b c d,T0 a b c d/\T1 a b c d/\T2 a b c d/\T3 a b c d) (k:∀a b c d,T0 a b c d->T1 a b c d->T2 a b c d->T3 a b c d->G):G:=h.elim λa h0=>h0.elim λb h1=>h1.elim λc h2=>h2.elim λd h3=>k a b c d h3.1 h3.2.1 h3.2.2.1 h3.2.2.2
theorem qaf (h:∃a b c d,T0 a b c d/\T1 a b c d/\T2 a b c d/\T3 a b c d/\T4 a b c d) (k:∀a b c d,T0 a b c d->T1 a b c d->T2 a b c d->T3 a b c d->T4 a b c d->G):G:=h.elim λa h0=>h0.elim λb h1=>h1.elim λc h2=>h2.elim λd h3=>k a b c d h3.1 h3.2.1 h3.2.2.1 h3.2.2.2.1 h3.2.2.2.2
theorem qar (h:∃a b c d,T0 a b c d/\T1 a b c d/\T2 a b c d/\T3 a b c d/\T4 a b c d/\T5 a b c d) (k:∀a b c d,T0 a b c d->T1 a b c d->T2 a b c d->T3 a b c d->T4 a b c d->T5 a b c d->G):G:=h.elim λa h0=>h0.elim λb h1=>h1.elim λc h2=>h2.elim λd h3=>k a b c d h3.1 h3.2.1 h3.2.2.1 h3.2.2.2.1 h3.2.2.2.2.1 h3.2.2.2.2.2
theorem qi0 (h:∃a b c d,T0 a b c d/\T1 a b c d/\T2 a b c d/\T3 a b c d/\T4 a b c d/\T5 a b c d/\T6 a b c d) (k:∀a b c d,T0 a b c d->T1 a b c d->T2 a b c d->T3 a b c d->T4 a b c d->T5 a b c d->T6 a b c d->G):G:=h.elim λa h0=>h0.elim λb h1=>h1.elim λc h2=>h2.elim λd h3=>k a b c d h3.1 h3.2.1 h3.2.2.1 h3.2.2.2.1 h3.2.2.2.2.1 h3.2.2.2.2.2.1 h3.2.2.2.2.2.2
theorem qn4 (h:∃a b c d e,U0 a b c d e/\U1 a b c d e/\U2 a b c d e) (k:∀a b c d e,U0 a b c d e->U1 a b c d e->U2 a b c d e->G):G:=h.elim λa h0=>h0.elim λb h1=>h1.elim λc h2=>h2.elim λd h3=>h3.elim λe h4=>k a b c d e h4.1 h4.2.1 h4.2.2
theorem qgi (h:∃a b c d e,U0 a b c d e/\U1 a b c d e/\U2 a b c d e/\U3 a b c d e) (k:∀a b c d e,U0 a b c d e->U1 a b c d e->U2 a b c d e->U3 a b c d e->G):G:=h.elim λa h0=>h0.elim λb h1=>h1.elim λc h2=>h2.elim λd h3=>h3.elim λe h4=>k a b c d e h4.1 h4.2.1 h4.2.2.1 h4.2.2.2
theorem qhz (h:∃a b c d e,U0 a b c d e/\U1 a b c d e/\U2 a b c d e/\U3 a b c d e/\U4 a b c d e/\U5 a b c d e) (k:∀a b c d e,U0 a b c d e->U1 a b c d e->U2 a b c d e->U3 a b c d e->U4 a b c d e->U5 a b c d e->G):G:=h.elim λa h0=>h0.elim λb h1=>h1.elim λc h2=>h2.elim λd h3=>h3.elim λe h4=>k a b c d e h4.1 h4.2.1 h4.2.2.1 h4.2.2.2.1 h4.2.2.2.2.1 h4.2.2.2.2.2
theorem qe7 (h:∃a b c d e,U0 a b c d e/\U1 a b c d e/\U2 a b c d e/\U3 a b c d e/\U4 a b c d e/\U5 a b c d e/\U6 a b c d e) (k:∀a b c d e,U0 a b c d e->U1 a b c d e->U2 a b c d e->U3 a b c d e->U4 a b c d e->U5 a b c d e->U6 a b c d e->G):G:=h.elim λa h0=>h0.elim λb h1=>h1.elim λc h2=>h2.elim λd h3=>h3.elim λe h4=>k a b c d e h4.1 h4.2.1 h4.2.2.1 h4.2.2.2.1 h4.2.2.2.2.1 h4.2.2.2.2.2.1 h4.2.2.2.2.2.2
theorem qb8 (h:∃a b c d e,U0 a b c d e/\U1 a b c d e/\U2 a b c d e/\U3 a b c d e/\U4 a b c d e/\U5 a b c d e/\U6 a b c d e/\U7 a b c d e) (k:∀a b c d e,U0 a b c d e->U1 a b c d e->U2 a b c d e->U3 a b c d e->U4 a b c d e->U5 a b c d e->U6 a b c d e->U7 a b c d e->G):G:=h.elim λa h0=>h0.elim λb h1=>h1.elim λc h2=>h2.elim λd h3=>h3.elim λe h4=>k a b c d e h4.1 h4.2.1 h4.2.2.1 h4.2.2.2.1 h4.2.2.2.2.1 h4.2.2.2.2.2.1 h4.2.2.2.2.2.2.1 h4.2.2.2.2.2.2.2
theorem qfu (h:∃a b c d e,U0 a b c d e/\U1 a b c d e/\U2 a b c d e/\U3 a b c d e/\U4 a b c d e/\U5 a b c d e/\U6 a b c d e/\U7 a b c d e/\U8 a b c d e) (k:∀a b c d e,U0 a b c d e->U1 a b c d e->U2 a b c d e->U3 a b c d e->U4 a b c d e->U5 a b c d e->U6 a b c d e->U7 a b c d e->U8 a b c d e->G):G:=h.elim λa h0=>h0.elim λb h1=>h1.elim λc h2=>h2.elim λd h3=>h3.elim λe h4=>k a b c d e h4.1 h4.2.1 h4.2.2.1 h4.2.2.2.1 h4.2.2.2.2.1 h4.2.2.2.2.2.1 h4.2.2.2.2.2.2.1 h4.2.2.2.2.2.2.2.1 h4.2.2.2.2.2.2.2.2
theorem qf9 (h:∃a b c d e,U0 a b c d e/\U1 a b c d e/\U2 a b c d e/\U3 a b c d e/\U4 a b c d e/\∃f g,W0 a b c d e f g/\W1 a b c d e f g/\W2 a b c d e f g) (k:∀a b c d e,U0 a b c d e->U1 a b c d e->U2 a b c d e->U3 a b c d e->U4 a b c d e->∀f g,W0 a b c d e f g->W1 a b c d e f g->W2 a b c d e f g->G):G:=h.elim λa h0=>h0.elim λb h1=>h1.elim λc h2=>h2.elim λd h3=>h3.elim λe h4=>h4.2.2.2.2.2.elim λf h5=>h5.elim λg h6=>k a b c d e h4.1 h4.2.1 h4.2.2.1 h4.2.2.2.1 h4.2.2.2.2.1 f g h6.1 h6.2.1 h6.2.2
theorem qn3 (h:∃a b c d e f,V0 a b c d e f/\V1 a b c d e f) (k:∀a b c d e f,V0 a b c d e f->V1 a b c d e f->G):G:=h.elim λa h0=>h0.elim λb h1=>h1.elim λc h2=>h2.elim λd h3=>h3.elim λe h4=>h4.elim λf h5=>k a b c d e f h5.1 h5.2
theorem qft (h:∃a b c d e f g,W0 a b c d e f g/\W1 a b c d e f g/\W2 a b c d e f g/\W3 a b c d e f g/\W4 a b c d e f g/\W5 a b c d e f g/\W6 a b c d e f g) (k:∀a b c d e f g,W0 a b c d e f g->W1 a b c d e f g->W2 a b c d e f g->W3 a b c d e f g->W4 a b c d e f g->W5 a b c d e f g->W6 a b c d e f g->G):G:=h.elim λa h0=>h0.elim λb h1=>h1.elim λc h2=>h2.elim λd h3=>h3.elim λe h4=>h4.elim λf h5=>h5.elim λg h6=>k a b c d e f g h6.1 h6.2.1 h6.2.2.1 h6.2.2.2.1 h6.2.2.2.2.1 h6.2.2.2.2.2.1 h6.2.2.2.2.2.2
theorem qau (h:∃a b c d e f g,W0 a b c d e f g/\W1 a b c d e f g/\W2 a b c d e f g/\W3 a b c d e f g/\W4 a b c d e f g/\W5 a b c d e f g/\W6 a b c d e f g/\W7 a b c d e f g/\W8 a b c d e f g/\W9 a b c d e f g) (k:∀a b c d e f g,W0 a b c d e f g->W1 a b c d e f g->W2 a b c d e f g->W3 a b c d e f g->W4 a b c d e f g->W5 a b c d e f g->W6 a b c d e f g->W7 a b c d e f g->W8 a b c d e f g->W9 a b c d e f g->G):G:=h.elim λa h0=>h0.elim λb h1=>h1.elim λc h2=>h2.elim λd h3=>h3.elim λe h4=>h4.elim λf h5=>h5.elim λg h6=>k a b c d e f g h6.1 h6.2.1 h6.2.2.1 h6.2.2.2.1 h6.2.2.2.2.1 h6.2.2.2.2.2.1 h6.2.2.2.2.2.2.1 h6.2.2.2.2.2.2.2.1 h6.2.2.2.2.2.2.2.2.1 h6.2.2.2.2.2.2.2.2.2
theorem qfs (h:∃a b c d e f g h i,Y0 a b c d e f g h i/\Y1 a b c d e f g h i/\Y2 a b c d e f g h i/\Y3 a b c d e f g h i/\Y4 a b c d e f g h i) (k:∀a b c d e f g h i,Y0 a b c d e f g h i->Y1 a b c d e f g h i->Y2 a b c d e f g h i->Y3 a b c d e f g h i->Y4 a b c d e f g h i->G):G:=h.elim λa h0=>h0.elim λb h1=>h1.elim λc h2=>h2.elim λd h3=>h3.elim λe h4=>h4.elim λf h5=>h5.elim λg h6=>h6.elim λh h7=>h7.elim λi h8=>k a b c d e f g h i h8.1 h8.2.1 h8.2.2.1 h8.2.2.2.1 h8.2.2.2.2
end
variable {n:Nat} {a:Ht} {b:Nat} {α:Type} {j:Nat} {c:Nat->Int} {x:Hv} {S:Nat->Bool} {k:Nat} {A:BJ} {r:Nat} {row:List (List Nat)} {bs:List (List Nat)} {i:Nat} {par:Nat->Nat} {h:Heap} {L:Int} {lf:Bool} {p:Pos} {o:Obj} {Y:Nat->Prop} {h':Heap} {fr:List HA} {env:HA} {M:Model} {E:Hw->Ab->Prop} {kd:AA} {Q:Hw->Ab->Prop} {e:Expr} {es:List Expr} {t:Expr} {va:Hw} {q:Pos} {st:Stmt} {nm:List (Hv×AA)} {xs:List Hv} {scope:Scope} {body:List Stmt} {ns:List Int} {kn:List Hv} {p':Pos} {la:Ht} {ws:List Ht} {it:Hw} {prog:Dw} {w:World} {tk:Nat} {R:Ho->Ab->Prop} {orelse:List Stmt} {iter:Expr} {elt:Expr} {gens:List DQ} {pos:Pos} {d:Nat} {ifs:List Expr} {names:List (Hv×AA)} {px:Pos} {test:Expr} {py:Pos} {n':Nat} {e1:Expr} {os:OsState} {attrs:List Hv} {K:Type} {keys:List (Option Expr)} {ks:List Hv} {P:Ht} {sts:List Stmt} {N:Nat} {hi:Nat} {cd:Hw} {Yk:Nat->Prop} {lo0:Nat} {hi0:Nat} {κ:Nat->Int} {kx:Int} {ps:List Nat}
section
theorem k1:PySem.Challenge.rw_wb0045_01.wellSaid=Hq:=by kernel_rfl
end
section
noncomputable def sm (w:Nat->Int) (S:Nat->Bool) (B:List Nat):Int:=((B.filter S).map w).sum
noncomputable def tot (w:Nat->Int) (B:List Nat):Int:=(B.map w).sum
noncomputable def adj (S:Nat->Bool) (a:Nat):Nat->Bool:=λk=>k==a||S k
section
variable {w:Nat->Int} {a:Nat}
theorem qej (S:Nat->Bool)(a:Nat):adj S a a=Hq:=by unfold adj;rw[beq_self_eq_true];rfl
theorem qf8 (h:k≠a):adj S a k=S k:=by unfold adj;rw[beq_false_of_ne h];rfl
theorem qch (k:Nat)(B:List Nat):sm w S (k::B)=(if S k then w k else 0)+sm w S B:=by
  unfold sm;cases h:S k with
  | true=>rw[List.filter_cons_of_pos h,Bp,Ce];rfl
  | false=>rw[List.filter_cons_of_neg (by rw[h];exact nofun)];exact (EL _).symm
theorem qfm (A B:List Nat):sm w S (A ++ B)=sm w S A+sm w S B:=by unfold sm;rw[List.filter_append,AT,List.sum_append]
theorem qbc (k:Nat)(B:List Nat):tot w (k::B)=w k+tot w B:=by unfold tot;rw[Bp,Ce]
theorem qdb (A B:List Nat):tot w (A ++ B)=tot w A+tot w B:=by unfold tot;rw[AT,List.sum_append]
theorem qd5 {B:List Nat}(h:a∉B):sm w (adj S a) B=sm w S B:=by
  unfold sm;rw[DW (q:=S) λk hk=>qf8 (S:=S) λ(e:k=a)=>h (e ▸ hk)]
theorem qho {B:List Nat}(hn:B.Nodup)(h:a∈B)(ha:S a=Hr):sm w (adj S a) B=sm w S B+w a:=by
  induction B with
  | nil=>cases h
  | cons k B ih=>
    obtain ⟨h1,h2⟩:=Es.mp hn;rw[qch,qch];by_cases e:k=a
    . subst e;rw[qej,ha,qd5 h1,if_pos rfl,if_neg nofun];lia
    . rw[qf8 e,ih h2 ((Aw.mp h).resolve_left λq=>e q.symm)];lia
theorem qdu {B:List Nat}(h:∀k∈B,S k=Hq):sm w S B=tot w B:=by
  unfold sm tot;rw[List.filter_eq_self.mpr h]
theorem qcg {B:List Nat}(h:∀k∈B,S k=Hr):sm w S B=0:=by
  unfold sm;rw[EM.mpr λk hk=>by rw[h k hk];exact nofun];rfl
theorem qj3 {B:List Nat}(h:∀k∈B,0<=w k):0<=sm w S B:=by
  induction B with
  | nil=>exact Ca _
  | cons k B ih=>
    rw[qch];have h1:=ih λx hx=>h x (Ak _ hx)
    have h2:=h k Ac;split <;> lia
theorem qov {B:List Nat}(h:∀k∈B,0<=w k):sm w S B<=tot w B:=by
  induction B with
  | nil=>exact Ca _
  | cons k B ih=>
    rw[qch,qbc];have h1:=ih λx hx=>h x (Ak _ hx)
    have h2:=h k Ac;split <;> lia
end
section
variable (g h:Nat->Int)
noncomputable def qbu:Int->List Nat->Int
  | _,[]=>0
  | t,k::l=>g k*(t+h k)+qbu (t+h k) l
theorem qhc {t:Int}{l:List Nat}:qbu g h t (k::l)=g k*(t+h k)+qbu g h (t+h k) l:=rfl
theorem qjx (s:Int):∀(l:List Nat) (t:Int),qbu g h (t+s) l=qbu g h t l+s*tot g l:=by
  intro l;induction l with
  | nil=>intro t;show (0:Int)=0+s*0;simp
  | cons k l ih=>
    intro t;rw[qhc,qhc,show t+s+h k=t+h k+s by lia,ih,qbc]
    grind
theorem qio:∀(A B:List Nat) (t:Int),qbu g h t (A ++ B)=qbu g h t A+qbu g h (t+tot h A) B:=by
  intro A;induction A with
  | nil=>intro B t;rw[Dh,show tot h []=0 from rfl,FD,show qbu g h t []=0 from rfl,EL]
  | cons k A ih=>
    intro B t;rw[EZ];show g k*(t+h k)+qbu g h (t+h k) (A ++ B)=g k*(t+h k)+qbu g h (t+h k) A+_;rw[ih,qbc,Gg t (h k),Gg]
theorem ql1 (A B:List Nat):qbu g h 0 (A ++ B)=qbu g h 0 A+qbu g h 0 B+tot h A*tot g B:=by
  rw[qio,qjx];lia
end
section
variable (par:Nat->Nat) (g h:Nat->Int) (L:Int)
def Idl (S:Nat->Bool):Prop:=∀k,0<k->S k=Hq->S (par k)=Hq
structure Pot (B:List Nat) (φ:(Nat->Bool)->Int):Prop where
  nul:∀S,(∀k∈B,S k=Hr)->φ S=0
  all:∀S,(∀k∈B,S k=Hq)->φ S=L*qbu g h 0 B
  out:∀S a,a∉B->φ (adj S a)=φ S
  step:∀S a,a∈B->S a=Hr->Idl par S->Idl par (adj S a)->φ (adj S a)<=φ S+L*(g a*sm h (adj S a) B)
variable {par g h L}
theorem Pot.nil:Pot par g h L [] λ_=>0:=⟨λ_ _=>rfl,λ_ _=>(EN L).symm,λ_ _ _=>rfl,nofun⟩
theorem Pot.app {A B:List Nat}{φ ψ:(Nat->Bool)->Int}{R:Int}(P:Pot par g h L A φ)(Q:Pot par g h L B ψ)(hA:A.Nodup)(hB:B.Nodup)(hd:∀k∈A,k∉B)(hh:∀k,0<=h k)(r:L*tot g A=R*tot h A)(a1:∀S,Idl par S->L*sm g S A<=R*sm h S A)(b1:∀S,Idl par S->L*sm g S B<=R*sm h S B):
    Pot par g h L (A ++ B) λS=>φ S+ψ S+(L*(sm g S A*sm h S B+sm g S B*sm h S A) - R*(sm h S A*sm h S B)) where
  nul S hS:=by
    have h1:∀k∈A,S k=Hr:=λk hk=>hS k (Bf _ hk)
    have h2:∀k∈B,S k=Hr:=λk hk=>hS k (AY _ hk)
    show φ S+ψ S+_=0;rw[P.nul S h1,Q.nul S h2,qcg (w:=g) h1,qcg (w:=h) h1,qcg (w:=g) h2,qcg (w:=h) h2];simp
  all S hS:=by
    have h1:∀k∈A,S k=Hq:=λk hk=>hS k (Bf _ hk)
    have h2:∀k∈B,S k=Hq:=λk hk=>hS k (AY _ hk)
    show φ S+ψ S+_=_;rw[P.all S h1,Q.all S h2,qdu (w:=g) h1,qdu (w:=h) h1,qdu (w:=g) h2,qdu (w:=h) h2,ql1];have e:L*tot g A*tot h B=R*tot h A*tot h B:=by rw[r]
    grind
  out S a ha:=by
    have h1:a∉A:=λq=>ha (Bf _ q)
    have h2:a∉B:=λq=>ha (AY _ q)
    show φ _+ψ _+_=φ S+ψ S+_;rw[P.out S a h1,Q.out S a h2,qd5 h1,qd5 h1,qd5 h2,qd5 h2]
  step S a ha hn i1 i2:=by
    show φ _+ψ _+_<=φ S+ψ S+_+_;rw[qfm];rcases BZ.mp ha with m | m
    . have h2:a∉B:=hd a m;have s:=P.step S a m hn i1 i2;have k:=b1 S i1;have k2:=DA k (hh a);rw[Q.out S a h2,qd5 h2,qd5 h2,qho hA m hn,qho hA m hn];rw[qho hA m hn] at s
      grind
    . have h1:a∉A:=λq=>hd a q m
      have s:=Q.step S a m hn i1 i2;have k:=a1 S i1;have k2:=DA k (hh a);rw[P.out S a h1,qd5 h1,qd5 h1,qho hB m hn,qho hB m hn];rw[qho hB m hn] at s
      grind
theorem Pot.head {Q:List Nat}{φ:(Nat->Bool)->Int}(P:Pot par g h L Q φ)(hQ:Q.Nodup)(hr:r∉Q)(hi:∀S,Idl par S->∀k∈Q,S k=Hq->S r=Hq):
    Pot par g h L (r::Q) λS=>if S r then L*(g r*h r+h r*sm g S Q)+φ S else 0 where
  nul S hS:=by
    show (if S r then _ else _)=_;rw[hS r Ac,if_neg nofun]
  all S hS:=by
    have h1:∀k∈Q,S k=Hq:=λk hk=>hS k (Ak _ hk)
    show (if S r then _ else _)=_;rw[hS r Ac,if_pos rfl,P.all S h1,qdu h1,show r::Q=[r] ++ Q from rfl,ql1];rw[show qbu g h 0 [r]=g r*h r by rw[qhc];show g r*(0+h r)+0=_;rw[EL,FD],show tot h [r]=h r by unfold tot;simp]
    grind
  out S a ha:=by
    have h1:r≠a:=λq=>ha (q ▸ Ac)
    have h2:a∉Q:=λq=>ha (Ak _ q)
    show (if adj S a r then _ else _)=if S r then _ else _;rw[qf8 h1,P.out S a h2,qd5 h2]
  step S a ha hn i1 i2:=by
    show (if adj S a r then _ else _)<=(if S r then _ else _)+_;rcases Aw.mp ha with rfl | m
    . have h0:∀k∈Q,S k=Hr:=λk hk=>by
        cases e:S k with
        | false=>rfl
        | true=>rw[hi S i1 k hk e] at hn;cases hn
      rw[qej,hn,if_pos rfl,if_neg nofun,P.out S a hr,P.nul S h0,qch,qej,if_pos rfl,qd5 hr,qd5 hr,qcg h0,qcg h0]
      grind
    . have hne:r≠a:=λq=>hr (q ▸ m)
      have hrt:S r=Hq:=by
        have:=hi _ i2 a m (qej S a);rwa[qf8 hne] at this
      have s:=P.step S a m hn i1 i2;rw[qf8 hne,hrt,if_pos rfl,if_pos rfl,qch,qf8 hne,hrt,if_pos rfl,qho hQ m hn]
      grind
end
end
section
section
variable (par:Nat->Nat) (g h:Nat->Int) (L:Int)
noncomputable def rat (B:List Nat):Int:=tot g B*(L / tot h B)
structure Good (B:List Nat):Prop where
  nd:B.Nodup
  pos:0<tot h B
  dv:tot h B ∣ L
  atom:∀S,Idl par S->L*sm g S B<=rat g h L B*sm h S B
  pot:∃φ,Pot par g h L B φ
def Dis (A B:List Nat):Prop:=∀k∈A,k∉B
structure Row (row:List (List Nat)):Prop where
  good:∀B∈row,Good par g h L B
  dis:row.Pairwise Dis
  srt:row.Pairwise λA B=>rat g h L B<=rat g h L A
variable {par g h L}
theorem qfo {B:List Nat}(hd:tot h B ∣ L):L*tot g B=rat g h L B*tot h B:=by
  unfold rat;rw[Int.mul_assoc,Int.ediv_mul_cancel hd,GA]
theorem Row.tail {B:List Nat}(W:Row par g h L (B::row)):Row par g h L row:=⟨λA hA=>W.good A (Ak _ hA),(AG.mp W.dis).2,(AG.mp W.srt).2⟩
theorem qpq (hk:k∈row.flatten):∃B∈row,k∈B:=BD.mp hk
theorem ql0 {A:List Nat}(h:∀B∈row,Dis A B):∀k∈A,k∉row.flatten:=λk hk q=>by
  obtain ⟨B,hB,hkB⟩:=qpq q;exact h B hB k hk hkB
theorem Row.nd:∀{row:List (List Nat)},Row par g h L row->row.flatten.Nodup:=by
  intro row;induction row with
  | nil=>intro _;exact .nil
  | cons B row ih=>
    intro W;rw[Bs,CM];refine ⟨(W.good B Ac).nd,ih W.tail,λa ha b hb e=>?_⟩;exact ql0 (AG.mp W.dis).1 a ha (e ▸ hb)
theorem Row.bound {R:Int}(hS:Idl par S)(hh:∀k,0<=h k):∀{row:List (List Nat)},Row par g h L row->(∀B∈row,rat g h L B<=R)->L*sm g S row.flatten<=R*sm h S row.flatten:=by
  intro row;induction row with
  | nil=>intro _ _;show L*0<=R*0;rw[EN,EN];exact Ca _
  | cons B row ih=>
    intro W hR;have h1:=ih W.tail λA hA=>hR A (Ak _ hA)
    have h2:=(W.good B Ac).atom S hS;have h3:=DA (hR B Ac) (qj3 (w:=h) (S:=S) (B:=B) λk _=>hh k);rw[Bs,qfm,qfm]
    grind
theorem Row.pot (hh:∀k,0<=h k):∀{row:List (List Nat)},Row par g h L row->∃φ,Pot par g h L row.flatten φ:=by
  intro row;induction row with
  | nil=>intro _;exact ⟨_,Pot.nil⟩
  | cons B row ih=>
    intro W;obtain ⟨ψ,Q⟩:=ih W.tail;have G:=W.good B Ac;obtain ⟨φ,P⟩:=G.pot;exact ⟨_,Pot.app P Q G.nd W.tail.nd (ql0 (AG.mp W.dis).1) hh (qfo G.dv) G.atom λS hS=>W.tail.bound hS hh (AG.mp W.srt).1⟩
theorem qra {A B:List Nat}(hA:0<tot h A)(hB:0<tot h B)(dA:tot h A ∣ L)(dB:tot h B ∣ L)(d:tot h (A ++ B) ∣ L)(hr:rat g h L A<=rat g h L B):rat g h L A<=rat g h L (A ++ B)/\rat g h L (A ++ B)<=rat g h L B:=by
  have e1:=qfo (g:=g) dA;have e2:=qfo (g:=g) dB;have e3:=qfo (g:=g) d;rw[qdb,qdb] at e3;generalize rat g h L (A ++ B)=r at *;generalize rat g h L A=a at *;generalize rat g h L B=b at *;constructor
  . refine CP.mp λq=>?_
    have h1:(r - a)*tot h A<0:=Ed (by lia) hA;have h2:(r - b)*tot h B<0:=Ed (by lia) hB
    grind
  . refine CP.mp λq=>?_
    have h1:0<(r - a)*tot h A:=Int.mul_pos (by lia) hA;have h2:0<(r - b)*tot h B:=Int.mul_pos (by simp_all) hB
    grind
theorem Good.join (W:Row par g h L row)(hh:∀k,0<=h k)(hr0:0<h r)(hr:r∉row.flatten)(hi:∀S,Idl par S->∀k∈row.flatten,S k=Hq->S r=Hq)(hd:tot h (r::row.flatten) ∣ L)(hR:∀B∈row,rat g h L (r::row.flatten)<=rat g h L B):Good par g h L (r::row.flatten):=by
  obtain ⟨φ,P⟩:=W.pot hh;have hp:0<tot h (r::row.flatten):=by
    rw[qbc];have:0<=tot h row.flatten:=by
      rw[<- qdu (S:=λ_=>Hq) λ_ _=>rfl];exact qj3 λk _=>hh k
    lia
  refine ⟨Es.mpr ⟨hr,W.nd⟩,hp,hd,λS hS=>?_,_,Pot.head P W.nd hr hi⟩;have e:=qfo (g:=g) hd;generalize rat g h L (r::row.flatten)=R at *;cases hs:S r with
  | false=>
    have h0:∀k∈r::row.flatten,S k=Hr:=λk hk=>by
      rcases Aw.mp hk with rfl | hk
      . exact hs
      . cases e:S k with
        | false=>rfl
        | true=>rw[hi S hS k hk e] at hs;cases hs
    rw[qcg h0,qcg h0,EN,EN];exact Ca _
  | true=>
    have key:∀row:List (List Nat),Row par g h L row->(∀B∈row,R<=rat g h L B)->L*sm g S row.flatten - R*sm h S row.flatten<=L*tot g row.flatten - R*tot h row.flatten:=by
      intro row;induction row with
      | nil=>intro _ _;exact Ca _
      | cons B row ih=>
        intro W hR;have h1:=ih W.tail λA hA=>hR A (Ak _ hA)
        have G:=W.good B Ac;have h2:=G.atom S hS;have h3:=qfo (g:=g) G.dv;have h4:=qov (w:=h) (S:=S) (B:=B) λk _=>hh k
        have h5:=Fg h4 (Int.sub_nonneg_of_le (hR B Ac));rw[Bs,qfm,qfm,qdb,qdb]
        grind
    have:=key row W hR;rw[qch,qch,hs,if_pos rfl,if_pos rfl];rw[qbc,qbc] at e
    grind
end
end
section
section
variable (par:Nat->Nat)
def Lin (l:List Nat):Prop:=l.Pairwise λa b=>0<a->par a≠b
variable (g h:Nat->Int) (L:Int)
def Rel (row:List (List Nat)):Prop:=∀A∈row,∀B∈row,∀k∈B,0<k->par k∈A->A=B\/rat g h L B<rat g h L A
structure RowL (bs:List (List Nat)):Prop where
  row:Row par g h L bs
  lin:∀B∈bs,Lin par B
  rel:Rel par g h L bs
variable {par g h L}
theorem Good.ne {B:List Nat}(G:Good par g h L B):B≠[]:=λe=>by
  have:=G.pos;rw[e] at this;exact Fb _ this
theorem RowL.plan (W:RowL par g h L row):Lin par row.flatten:=by
  unfold Lin;rw[List.pairwise_flatten];refine ⟨λB hB=>W.lin B hB,?_⟩;refine En (R:=λA B=>Dis A B/\rat g h L B<=rat g h L A) (λ{A B} hA hB q a ha b hb h0 e=>?_) (W.row.dis.and W.row.srt);rcases W.rel B hB A hA a ha h0 (e ▸ hb) with q1 | q1
  . exact q.1 a ha (q1 ▸ ha)
  . exact absurd q1 (CP.mpr q.2)
noncomputable def qkt (p:List Nat->Bool) (B:List Nat):List (List Nat)->List (List Nat)
  | []=>[B]
  | A::row=>if p A then A::qkt p B row else B::A::row
theorem qks {p:List Nat->Bool}{B A:List Nat}:qkt p B (A::row)=if p A then A::qkt p B row else B::A::row:=rfl
theorem qc7 (p:List Nat->Bool)(B:List Nat):∀row,(qkt p B row).Perm (B::row):=by
  intro row;induction row with
  | nil=>exact .refl _
  | cons A row ih=>
    rw[qks];split
    . exact (ih.cons A).trans (Gq.swap B A row)
    . exact .refl _
theorem qh4 {p:List Nat->Bool}{B:List Nat}(h1:∀A,p A=Hq->rat g h L B<=rat g h L A)(h2:∀A,p A=Hr->rat g h L A<=rat g h L B):∀{row:List (List Nat)},(row.Pairwise λA B=>rat g h L B<=rat g h L A)->(qkt p B row).Pairwise λA B=>rat g h L B<=rat g h L A:=by
  intro row;induction row with
  | nil=>intro _;exact .cons nofun .nil
  | cons A row ih=>
    intro hs;obtain ⟨s1,s2⟩:=AG.mp hs;rw[qks];cases hp:p A with
    | true=>
      rw[if_pos rfl];refine AG.mpr ⟨λC hC=>?_,ih s2⟩;rcases Aw.mp ((qc7 p B row).mem_iff.mp hC) with rfl | q
      . exact h1 A hp
      . exact s1 C q
    | false=>
      rw[if_neg nofun];refine AG.mpr ⟨λC hC=>?_,hs⟩;rcases Aw.mp hC with rfl | q
      . exact h2 C hp
      . exact CE (s1 C q) (h2 A hp)
theorem Dis.symm {A B:List Nat}(d:Dis A B):Dis B A:=λk hB hA=>d k hA hB
theorem RowL.ins {p:List Nat->Bool}{B:List Nat}(W:RowL par g h L row)(G:Good par g h L B)(lB:Lin par B)(d:∀A∈row,Dis B A)(r1:∀A∈row,∀k∈A,0<k->par k∈B->rat g h L A<rat g h L B)(r2:∀A∈row,∀k∈B,0<k->par k∈A->rat g h L B<rat g h L A)(h1:∀A,p A=Hq->rat g h L B<=rat g h L A)(h2:∀A,p A=Hr->rat g h L A<=rat g h L B):RowL par g h L (qkt p B row):=by
  have hm:∀A,A∈qkt p B row↔A=B\/A∈row:=λA=>((qc7 p B row).mem_iff).trans Aw
  refine ⟨⟨λA hA=>?_,?_,qh4 h1 h2 W.row.srt⟩,λA hA=>?_,λA hA C hC k hk h0 hp=>?_⟩
  . rcases (hm A).mp hA with rfl | q
    . exact G
    . exact W.row.good A q
  . exact ((qc7 p B row).pairwise_iff λq=>Dis.symm q).mpr (AG.mpr ⟨d,W.row.dis⟩)
  . rcases (hm A).mp hA with rfl | q
    . exact lB
    . exact W.lin A q
  . rcases (hm A).mp hA with rfl | q <;> rcases (hm C).mp hC with rfl | q'
    . exact .inl rfl
    . exact .inr (r1 C q' k hk h0 hp)
    . exact .inr (r2 A q k hk h0 hp)
    . exact W.rel A q C q' k hk h0 hp
end
end
section
section
variable (par:Nat->Nat) (g h:Nat->Int) (L:Int)
structure Cmp (A B:List Nat):Prop where
  dis:Dis A B
  r1:∀k∈B,0<k->par k∈A->rat g h L B<rat g h L A
  r2:∀k∈A,0<k->par k∈B->rat g h L A<rat g h L B
noncomputable def qee (p:List Nat->List Nat->Bool) (row bs:List (List Nat)):List (List Nat):=bs.foldl (λrow B=>qkt (p B) B row) row
variable {par g h L}
theorem Cmp.symm {A B:List Nat}(c:Cmp par g h L A B):Cmp par g h L B A:=⟨c.dis.symm,c.r2,c.r1⟩
theorem RowL.cmp (W:RowL par g h L bs):bs.Pairwise (Cmp par g h L):=by
  refine En (λ{A B} hA hB d=>⟨d,λk hk h0 hp=>?_,λk hk h0 hp=>?_⟩) W.row.dis
  . rcases W.rel A hA B hB k hk h0 hp with e | q
    . exact absurd (e ▸ hk) (λq=>d k q hk)
    . exact q
  . rcases W.rel B hB A hA k hk h0 hp with e | q
    . exact absurd (e ▸ hk) (d k hk)
    . exact q
theorem qdi (p:List Nat->List Nat->Bool):∀(bs row:List (List Nat)),(qee p row bs).Perm (bs ++ row):=by
  intro bs;induction bs with
  | nil=>intro row;exact .refl _
  | cons B bs ih=>
    intro row;refine (ih (qkt (p B) B row)).trans ?_;exact ((qc7 (p B) B row).append_left bs).trans List.perm_middle
theorem qsc {p:List Nat->List Nat->Bool}(h1:∀B A,p B A=Hq->rat g h L B<=rat g h L A)(h2:∀B A,p B A=Hr->rat g h L A<=rat g h L B):∀(bs row:List (List Nat)),RowL par g h L row->(∀B∈bs,Good par g h L B/\Lin par B)->bs.Pairwise (Cmp par g h L)->(∀B∈bs,∀A∈row,Cmp par g h L B A)->RowL par g h L (qee p row bs):=by
  intro bs;induction bs with
  | nil=>intro row W _ _ _;exact W
  | cons B bs ih=>
    intro row W hG hP hC;obtain ⟨p1,p2⟩:=AG.mp hP;have c0:=hC B Ac;obtain ⟨G,l⟩:=hG B Ac;refine ih _ (W.ins G l (λA hA=>(c0 A hA).dis) (λA hA=>(c0 A hA).r1) (λA hA=>(c0 A hA).r2) (h1 B) (h2 B)) (λA hA=>hG A (Ak _ hA)) p2 λA hA C hCr=>?_
    rcases Aw.mp ((qc7 (p B) B row).mem_iff.mp hCr) with rfl | q
    . exact (p1 A hA).symm
    . exact hC A (Ak _ hA) C q
theorem RowL.nil:RowL par g h L []:=⟨⟨nofun,.nil,.nil⟩,nofun,nofun⟩
end
end
section
section
variable (par:Nat->Nat) (g h:Nat->Int) (L:Int)
noncomputable def qfx:List Nat->List (List Nat)->List (List Nat)
  | cur,[]=>[cur]
  | cur,B::row=>if rat g h L cur<=rat g h L B then qfx (cur ++ B) row else cur::B::row
variable {par g h L}
theorem qnk {cur B:List Nat}:qfx g h L cur (B::row)=if rat g h L cur<=rat g h L B then qfx g h L (cur ++ B) row else cur::B::row:=rfl
theorem RowL.sub {as:List (List Nat)}(W:RowL par g h L bs)(s:GC as bs):RowL par g h L as:=
  ⟨⟨λB hB=>W.row.good B (s.subset hB),W.row.dis.sublist s,W.row.srt.sublist s⟩,λB hB=>W.lin B (s.subset hB),λA hA B hB=>W.rel A (s.subset hA) B (s.subset hB)⟩
theorem qs9 {v:Nat}(hh:∀k,0<=h k)(hv:0<h v)(hp:0<v->par v<v):∀(row bs:List (List Nat)),RowL par g h L (bs ++ row)->(∀k∈(bs ++ row).flatten,v<k)->(∀S,Idl par S->∀k∈(bs ++ row).flatten,S k=Hq->S v=Hq)->(∀xs ys,xs ++ ys=bs ++ row->tot h (v::xs.flatten) ∣ L)->(∀B∈bs,rat g h L (v::bs.flatten)<=rat g h L B)->RowL par g h L (qfx g h L (v::bs.flatten) row):=by
  have hG:∀(row bs:List (List Nat)),RowL par g h L (bs ++ row)->(∀k∈(bs ++ row).flatten,v<k)->(∀S,Idl par S->∀k∈(bs ++ row).flatten,S k=Hq->S v=Hq)->(∀xs ys,xs ++ ys=bs ++ row->tot h (v::xs.flatten) ∣ L)->(∀B∈bs,rat g h L (v::bs.flatten)<=rat g h L B)->Good par g h L (v::bs.flatten)/\Lin par (v::bs.flatten):=by
    intro row bs W hk hi hd hR;have Wb:=W.sub (BO bs row);have hm:∀k∈bs.flatten,k∈(bs ++ row).flatten:=λk q=>by rw[CS];exact Bf _ q
    refine ⟨Good.join Wb.row hh hv (λq=>C0 _ (hk v (hm v q))) (λS hS k q=>hi S hS k (hm k q)) (hd bs row rfl) hR,AG.mpr ⟨λb hb h0 e=>?_,Wb.plan⟩⟩;have h1:=hk b (hm b hb);have h2:=hp h0;lia
  intro row;induction row with
  | nil=>
    intro bs W hk hi hd hR;obtain ⟨G,l⟩:=hG [] bs W hk hi hd hR;show RowL par g h L [v::bs.flatten];refine ⟨⟨λB hB=>AE.mp hB ▸ G,EH _ _,EH _ _⟩,λB hB=>AE.mp hB ▸ l,λA hA B hB k _ _ _=>.inl ?_⟩;rw[AE.mp hA,AE.mp hB]
  | cons B row ih=>
    intro bs W hk hi hd hR;obtain ⟨G,l⟩:=hG (B::row) bs W hk hi hd hR;have e1:(bs ++ [B]) ++ row=bs ++ B::row:=by rw[AF];rfl
    have e2:(v::bs.flatten) ++ B=v::(bs ++ [B]).flatten:=by rw[CS];simp
    have GB:=W.row.good B (AY _ Ac);obtain ⟨sb,sr,sx⟩:=BU.mp W.row.srt;obtain ⟨sr1,sr2⟩:=AG.mp sr;rw[qnk];by_cases hc:rat g h L (v::bs.flatten)<=rat g h L B
    . rw[if_pos hc,e2];refine ih (bs ++ [B]) (by rw[e1];exact W) (by rw[e1];exact hk) (by rw[e1];exact hi) (by rw[e1];exact hd) λA hA=>?_
      have hm:=(qra (g:=g) G.pos GB.pos G.dv GB.dv (by rw[e2];exact hd (bs ++ [B]) row e1) hc).2;rw[e2] at hm;rcases BZ.mp hA with q | q
      . exact CE hm (sx A q B Ac)
      . rw[AE.mp q];exact hm
    . rw[if_neg hc];have hlt:∀A∈B::row,rat g h L A<rat g h L (v::bs.flatten):=λA hA=>by
        have h0:=He.mp hc;rcases Aw.mp hA with rfl | q
        . exact h0
        . exact DH (sr1 A q) h0
      have Wr:=W.sub (De bs (B::row));obtain ⟨_,_,dx⟩:=BU.mp W.row.dis;have hkr:∀A∈B::row,∀k∈A,v<k:=λA hA k q=>hk k (by rw[CS];exact AY _ (BD.mpr ⟨A,hA,q⟩))
      refine ⟨⟨λA hA=>?_,AG.mpr ⟨λA hA k q1 q2=>?_,Wr.row.dis⟩,AG.mpr ⟨λA hA=>AU (hlt A hA),Wr.row.srt⟩⟩,λA hA=>?_,λA hA C hC k q h0 e=>?_⟩
      . rcases Aw.mp hA with rfl | q
        . exact G
        . exact Wr.row.good A q
      . rcases Aw.mp q1 with rfl | q1
        . exact C0 _ (hkr A hA k q2)
        . obtain ⟨X,hX,qX⟩:=BD.mp q1;exact dx X hX A hA k qX q2
      . rcases Aw.mp hA with rfl | q
        . exact l
        . exact Wr.lin A q
      . rcases Aw.mp hA with rfl | qA <;> rcases Aw.mp hC with rfl | qC
        . exact .inl rfl
        . exact .inr (hlt C qC)
        . rcases Aw.mp q with rfl | q
          . have h1:=hkr A qA _ e;have h2:=hp h0
            grind
          . obtain ⟨X,hX,qX⟩:=BD.mp q;rcases W.rel A (AY _ qA) X (Bf _ hX) k qX h0 e with z | z
            . exact absurd qX (λw=>dx X hX A qA k qX (z ▸ w))
            . exact absurd z (CP.mpr (sx X hX A qA))
        . exact Wr.rel A qA C qC k q h0 e
end
end
section
section
variable (par:Nat->Nat)
inductive Dsn (v:Nat):Nat->Prop
  | refl:Dsn v v
  | step {k:Nat}:0<k->Dsn v (par k)->Dsn v k
variable {par} (hp:∀k,0<k->par k<k)
theorem Dsn.idl (hS:Idl par S){v:Nat}(d:Dsn par v k):S k=Hq->S v=Hq:=by
  induction d with
  | refl=>exact id
  | step h0 _ ih=>exact λq=>ih (hS _ h0 q)
theorem Dsn.or_kid {v:Nat}(d:Dsn par v k):k=v\/∃c,0<c/\par c=v/\Dsn par c k:=by
  induction d with
  | refl=>exact .inl rfl
  | @step k h0 _ ih=>
    rcases ih with e | ⟨c,h1,h2,h3⟩
    . exact .inr ⟨k,h0,e,.refl⟩
    . exact .inr ⟨c,h1,h2,.step h0 h3⟩
theorem Dsn.of_kid {v c:Nat}(h0:0<c)(e:par c=v)(d:Dsn par c k):Dsn par v k:=by
  induction d with
  | refl=>exact .step h0 (e ▸ .refl)
  | step h1 _ ih=>exact .step h1 ih
theorem Dsn.lin {a:Nat}(d:Dsn par a k)(d':Dsn par b k):Dsn par a b\/Dsn par b a:=by
  induction d with
  | refl=>exact .inr d'
  | @step k h0 d1 ih=>
    cases d' with
    | refl=>exact .inl (.step h0 d1)
    | step _ d2=>exact ih d2
include hp
theorem Dsn.le {v:Nat}(d:Dsn par v k):v<=k:=by
  induction d with
  | refl=>exact Aq _
  | step h0 _ ih=>exact Bm (Cv ih (hp _ h0))
theorem qs4 {c c' v:Nat}(h1:0<c)(e1:par c=v)(h2:0<c')(e2:par c'=v)(d:Dsn par c k)(d':Dsn par c' k):c=c':=by
  have key:∀a b,0<a->par a=v->0<b->par b=v->Dsn par a b->a=b:=by
    intro a b ha ea hb eb d;cases d with
    | refl=>rfl
    | step _ d=>
      have:=d.le hp;have:=hp a ha;lia
  rcases d.lin d' with q | q
  . exact key c c' h1 e1 h2 e2 q
  . exact (key c' c h2 e2 h1 e1 q).symm
end
section
variable (par:Nat->Nat) (g h:Nat->Int) (L:Int) (N:Nat) (p:List Nat->List Nat->Bool)
noncomputable def qec (v:Nat):List Nat:=(Ae N).filter λk=>decide (0<k)&&par k==v
noncomputable def qk2:Nat->Nat->List (List Nat)
  | 0,v=>[[v]]
  | f+1,v=>qfx g h L [v] (qee p [] ((qec par N v).flatMap (qk2 f)))
theorem qfw:∀(row:List (List Nat)) (cur:List Nat),(qfx g h L cur row).flatten=cur ++ row.flatten:=by
  intro row;induction row with
  | nil=>intro cur;show [cur].flatten=cur ++ [];simp
  | cons B row ih=>
    intro cur;rw[qnk];split
    . rw[ih,Bs,AF]
    . rfl
variable {par g h L N p}
theorem qv2 {f v:Nat}:qk2 par g h L N p (f+1) v=qfx g h L [v] (qee p [] ((qec par N v).flatMap (qk2 par g h L N p f))):=rfl
theorem kidU_mem {v:Nat}:k∈qec par N v↔k<N/\0<k/\par k=v:=by
  rw[qec,Bi,Au,AH,decide_eq_true_iff,beq_iff_eq]
theorem qv1 (hp:∀k,0<k->par k<k)(hh:∀k,0<h k)(hdv:∀B:List Nat,B.Nodup->(∀k∈B,k<N)->B≠[]->tot h B ∣ L)(h1:∀B A,p B A=Hq->rat g h L B<=rat g h L A)(h2:∀B A,p B A=Hr->rat g h L A<=rat g h L B):
    ∀f v,v<N->N<=v+f->RowL par g h L (qk2 par g h L N p f v)/\∀k,k∈(qk2 par g h L N p f v).flatten↔k<N/\Dsn par v k:=by
  intro f;induction f with
  | zero=>intro v h h';exact absurd h (by lia)
  | succ f ih=>
    intro v hv hf;have IH:=λc (hc:c∈qec par N v)=>by
      obtain ⟨c1,c2,c3⟩:=kidU_mem.mp hc;exact ih c c1 (by have:=hp c c2;lia)
    have hm:∀B∈(qec par N v).flatMap (qk2 par g h L N p f),∃c∈qec par N v,B∈qk2 par g h L N p f c:=λB hB=>Gr.mp hB
    have hds:∀c∈qec par N v,∀B∈qk2 par g h L N p f c,∀k∈B,k<N/\Dsn par c k:=λc hc B hB k hk=>((IH c hc).2 k).mp (BD.mpr ⟨B,hB,hk⟩)
    have W:RowL par g h L (qee p [] ((qec par N v).flatMap (qk2 par g h L N p f))):=by
      refine qsc h1 h2 _ [] RowL.nil (λB hB=>?_) (List.pairwise_flatMap.mpr ⟨λc hc=>(IH c hc).1.cmp,?_⟩) λ_ _ _=>nofun
      . obtain ⟨c,hc,hB⟩:=hm B hB;exact ⟨(IH c hc).1.row.good B hB,(IH c hc).1.lin B hB⟩
      . refine En (R:=(· < ·)) (λ{c c'} hc hc' hlt A hA B hB=>?_) (Cj.filter _);obtain ⟨_,c2,c3⟩:=kidU_mem.mp hc;obtain ⟨_,d2,d3⟩:=kidU_mem.mp hc';have no:∀k,Dsn par c k->Dsn par c' k->False:=λk q1 q2=>BC hlt (qs4 hp c2 c3 d2 d3 q1 q2)
        exact ⟨λk q1 q2=>no k (hds c hc A hA k q1).2 (hds c' hc' B hB k q2).2,λk q h0 e=>(no k (.step h0 (hds c hc A hA _ e).2) (hds c' hc' B hB k q).2).elim,λk q h0 e=>(no k (hds c hc A hA k q).2 (.step h0 (hds c' hc' B hB _ e).2)).elim⟩
    have hfl:∀k,k∈(qee p [] ((qec par N v).flatMap (qk2 par g h L N p f))).flatten↔∃c∈qec par N v,k<N/\Dsn par c k:=by
      intro k;have P:=qdi p ((qec par N v).flatMap (qk2 par g h L N p f)) [];rw[BD];constructor
      . rintro ⟨B,hB,hk⟩
        have:=P.mem_iff.mp hB;rw[AO] at this;obtain ⟨c,hc,hB⟩:=hm B this;exact ⟨c,hc,hds c hc B hB k hk⟩
      . rintro ⟨c,hc,hk⟩
        obtain ⟨B,hB,hkB⟩:=BD.mp (((IH c hc).2 k).mpr hk);exact ⟨B,P.mem_iff.mpr (by rw[AO];exact Gr.mpr ⟨c,hc,hB⟩),hkB⟩
    generalize hrow:qee p [] ((qec par N v).flatMap (qk2 par g h L N p f))=row at W hfl;have hgt:∀k∈row.flatten,v<k/\k<N/\Dsn par v k:=λk hk=>by
      obtain ⟨c,hc,q1,q2⟩:=(hfl k).mp hk;obtain ⟨_,c2,c3⟩:=kidU_mem.mp hc;have:=hp c c2;have:=q2.le hp;exact ⟨by lia,q1,q2.of_kid c2 c3⟩
    have hb:qk2 par g h L N p (f+1) v=qfx g h L [v] row:=by rw[<- hrow];rfl
    rw[hb];refine ⟨qs9 (bs:=[]) (λk=>AU (hh k)) (hh v) (hp v) row W (λk hk=>(hgt k hk).1) (λS hS k hk q=>(hgt k hk).2.2.idl hS q) (λxs ys e=>?_) nofun,λk=>?_⟩
    . have s:GC xs row:=by
        rw[Dh] at e;exact e ▸ BO xs ys
      have hx:∀k∈xs.flatten,k∈row.flatten:=λk hk=>by
        obtain ⟨B,hB,q⟩:=BD.mp hk;exact BD.mpr ⟨B,s.subset hB,q⟩
      refine hdv _ (Es.mpr ⟨λq=>C0 _ (hgt v (hx v q)).1,(W.sub s).row.nd⟩) (λk hk=>?_) (List.cons_ne_nil _ _);rcases Aw.mp hk with rfl | q
      . exact hv
      . exact (hgt k (hx k q)).2.1
    . rw[qfw,BZ,AE,hfl];constructor
      . rintro (rfl | ⟨c,hc,q1,q2⟩)
        . exact ⟨hv,.refl⟩
        . obtain ⟨_,c2,c3⟩:=kidU_mem.mp hc;exact ⟨q1,q2.of_kid c2 c3⟩
      . rintro ⟨q1,q2⟩
        rcases q2.or_kid with e | ⟨c,c1,c2,c3⟩
        . exact .inl e
        . exact .inr ⟨c,kidU_mem.mpr ⟨Cv (c3.le hp) q1,c1,c2⟩,q1,c3⟩
end
end
section
section
variable (par:Nat->Nat) (g h:Nat->Int) (N:Nat)
noncomputable abbrev qcq (m k:Nat):Nat:=m ^^^ 2 ^ k
noncomputable def qvz (m:Nat):Bool:=(Ae N).all λk=>!(decide (0<k)&&m.testBit k)||m.testBit (par k)
noncomputable abbrev hrs (m:Nat):Int:=sm h m.testBit (Ae N)
noncomputable def qlg (m:Nat):List Nat:=(Ae N).filter λk=>m.testBit k&&qvz par N (qcq m k)
noncomputable def qqj:List Int->Int
  | []=>0
  | a::l=>l.foldl min a
theorem qrq:∀(l:List Int) (a:Int),(l.foldl min a=a\/l.foldl min a∈l)/\l.foldl min a<=a/\∀x∈l,l.foldl min a<=x:=by
  intro l;induction l with
  | nil=>intro a;exact ⟨.inl rfl,Ca _,nofun⟩
  | cons b l ih=>
    intro a;obtain ⟨h1,h2,h3⟩:=ih (min a b);rw[Fs];refine ⟨?_,CE h2 (Int.min_le_left _ _),λx hx=>?_⟩
    . rcases h1 with h1 | h1
      . rcases Int.le_total a b with q | q
        . exact .inl (h1.trans (Int.min_eq_left q))
        . exact .inr (by rw[h1,Int.min_eq_right q];exact Ac)
      . exact .inr (Ak _ h1)
    . rcases Aw.mp hx with rfl | q
      . exact CE h2 (Int.min_le_right _ _)
      . exact h3 x q
theorem qjd {l:List Int}(hl:l≠[]):qqj l∈l/\∀x∈l,qqj l<=x:=by
  cases l with
  | nil=>exact absurd rfl hl
  | cons a l=>
    obtain ⟨h1,h2,h3⟩:=qrq l a;refine ⟨?_,λx hx=>?_⟩
    . rcases h1 with h1 | h1
      . show l.foldl min a∈_;rw[h1];exact Ac
      . exact Ak _ h1
    . rcases Aw.mp hx with rfl | q
      . exact h2
      . exact h3 x q
noncomputable def wF:Nat->Nat->Int
  | 0,_=>0
  | f+1,m=>if m=0 then 0 else qqj ((qlg par N m).map λk=>wF f (qcq m k)+g k*hrs h N m)
variable {par g h N}
theorem qw6 {f m:Nat}:wF par g h N (f+1) m=if m=0 then 0 else qqj ((qlg par N m).map λk=>wF par g h N f (qcq m k)+g k*hrs h N m):=rfl
theorem qcx {m:Nat}:(qcq m k).testBit i=(m.testBit i ^^ decide (k=i)):=by rw[Nat.testBit_xor,Eg]
theorem qri:∀m:Fin 64,∀k:Fin 6,(m:Nat).testBit k=Hq->qcq (m:Nat) k<m:=by decide +kernel
theorem qhy {m:Nat}(hm:m<64)(hk6:k<6)(hk:m.testBit k=Hq):qcq m k<m:=qri ⟨m,hm⟩ ⟨k,hk6⟩ hk
theorem qrj {m:Nat}(hk:m.testBit k=Hq):m.testBit=adj (qcq m k).testBit k:=by
  funext i
  by_cases e:i=k
  . rw[e,qej,hk]
  . rw[qf8 e,qcx,decide_eq_false (B5 e),C1]
theorem qp1 {m:Nat}(hk:m.testBit k=Hq):(qcq m k).testBit k=Hr:=by rw[qcx,hk,decide_eq_true rfl];rfl
theorem qfh {m:Nat}(hm:m<2 ^ N):qvz par N m=Hq↔Idl par m.testBit:=by
  unfold qvz Idl;rw[BP];constructor
  . intro H k h0 hk;have hkN:k<N:=DI.mp λq=>by
      rw[Bw (Ag hm (Bq (by decide) q))] at hk;cases hk
    have:=H k (Au.mpr hkN);rw[decide_eq_true h0,hk] at this;exact this
  . intro H k _;by_cases h0:0<k
    . cases hk:m.testBit k with
      | false=>simp
      | true=>rw[H k h0 hk];simp
    . simp[h0]
theorem qr1:∀f f' m,m<64->m<=f->m<=f'->wF par g h 6 f m=wF par g h 6 f' m:=by
  intro f;induction f with
  | zero=>
    intro f' m _ h1 _;obtain rfl:m=0:=Nat.le_zero.mp h1;cases f' with
    | zero=>rfl
    | succ f'=>rfl
  | succ f ih=>
    intro f' m hm h1 h2;cases f' with
    | zero=>
      obtain rfl:m=0:=Nat.le_zero.mp h2;rfl
    | succ f'=>
      rw[qw6,qw6];by_cases e:m=0
      . rw[if_pos e,if_pos e]
      . rw[if_neg e,if_neg e];refine congrArg qqj (CT λk hk=>?_);obtain ⟨hk6,hb⟩:=Bi.mp hk;have:=qhy hm (Au.mp hk6) (Ay.mp hb).1;rw[ih f' (qcq m k) (by lia) (by lia) (by lia)]
end
end
section
theorem qkd {l l':List Int}(h:l.Perm l'):l.sum=l'.sum:=by
  induction h with
  | nil=>rfl
  | cons x _ ih=>rw[Ce,Ce,ih]
  | swap x y l=>simp only[Ce];lia
  | trans _ _ h1 h2=>exact h1.trans h2
theorem qj2 {w:Nat->Int}{A B:List Nat}(h:A.Perm B):sm w S A=sm w S B:=qkd ((h.filter S).map w)
theorem qr3:∀m:Fin 64,0<(m:Nat)->∃k:Fin 6,(m:Nat).testBit k=Hq/\∀j:Fin 6,k<j->(m:Nat).testBit j=Hr:=by decide +kernel
section
variable {g h:Nat->Int}
noncomputable abbrev wM (par:Nat->Nat) (g h:Nat->Int) (m:Nat):Int:=wF par g h 6 m m
theorem qv4 {m:Nat}(hm:m<64)(hi:m.testBit i=Hq):i<6:=DI.mp λq=>by
  rw[Bw (Ag (show m<2 ^ 6 from hm) (Bq (by decide) q))] at hi;cases hi
theorem qqe {m:Nat}(hp:∀k,0<k->par k<k)(hm:m<64)(h0:0<m)(hi:Idl par m.testBit):qlg par 6 m≠[]:=by
  obtain ⟨k,h1,h2⟩:=qr3 ⟨m,hm⟩ h0;refine List.ne_nil_of_mem (a:=k.val) (Bi.mpr ⟨Au.mpr k.isLt,Ay.mpr ⟨h1,?_⟩⟩);refine (qfh (Bc (qhy hm k.isLt h1) hm)).mpr λi i0 hb=>?_
  rw[qcx] at hb ⊢;have hik:k.val≠i:=λe=>by
    subst e;rw[show m.testBit k.val=Hq from h1,decide_eq_true rfl] at hb;cases hb
  rw[decide_eq_false hik,C1] at hb;have hi6:=qv4 hm hb;have hne:k.val≠par i:=λe=>by
    have:=hp i i0;have h3:=h2 ⟨i,hi6⟩ (by show k.val<i;simp_all);rw[show m.testBit i=Hr from h3] at hb;cases hb
  rw[decide_eq_false hne,C1];exact hi i i0 hb
theorem qm8 {m:Nat}(hm:m<64)(h0:0<m):wM par g h m=qqj ((qlg par 6 m).map λk=>wM par g h (qcq m k)+g k*hrs h 6 m):=by
  obtain ⟨n,rfl⟩:∃n,m=n+1:=⟨m - 1,by lia⟩
  show (if n+1=0 then 0 else qqj ((qlg par 6 (n+1)).map λk=>wF par g h 6 n (qcq (n+1) k)+g k*hrs h 6 (n+1)))=_;rw[if_neg (Nat.succ_ne_zero n)];refine congrArg qqj (CT λk hk=>?_);obtain ⟨hk6,hb⟩:=Bi.mp hk;have:=qhy hm (Au.mp hk6) (Ay.mp hb).1;rw[qr1 n (qcq (n+1) k) (qcq (n+1) k) (by lia) (by lia) (Aq _)]
theorem qto {m:Nat}(hm:m<64)(hk:k∈qlg par 6 m):k<6/\m.testBit k=Hq/\qcq m k<m/\Idl par (qcq m k).testBit:=by
  obtain ⟨hk6,hb⟩:=Bi.mp hk;obtain ⟨h1,h2⟩:=Ay.mp hb;have hlt:=qhy hm (Au.mp hk6) h1;exact ⟨Au.mp hk6,h1,hlt,(qfh (Bc hlt hm)).mp h2⟩
theorem qt0 {B:List Nat}{φ:(Nat->Bool)->Int}(hp:∀k,0<k->par k<k)(hL:0<=L)(P:Pot par g h L B φ)(hB:B.Perm (Ae 6)):∀(n m:Nat),m<n->m<64->Idl par m.testBit->φ m.testBit<=L*wM par g h m:=by
  intro n;induction n with
  | zero=>intro m q;exact absurd q (Cf _)
  | succ n ih=>
    intro m hmn hm hi;rcases Ey m with rfl | h0
    . rw[P.nul _ λk _=>DB k];show 0<=L*0;rw[EN];exact Ca _
    . have hne:=qqe (par:=par) hp hm h0 hi;have hin:=(qjd (l:=(qlg par 6 m).map λk=>wM par g h (qcq m k)+g k*hrs h 6 m) λe=>hne (Eh.mp e)).1;rw[<- qm8 hm h0] at hin;obtain ⟨k,hk,e⟩:=Bg.mp hin;obtain ⟨k6,hb,hlt,hi'⟩:=qto hm hk;have h1:=ih (qcq m k) (by lia) (by lia) hi';have ea:=qrj hb;have h2:=P.step (qcq m k).testBit k (hB.mem_iff.mpr (Au.mpr k6)) (qp1 hb) hi' (ea ▸ hi);rw[<- ea,qj2 hB] at h2;rw[<- e];have:L*(wM par g h (qcq m k)+g k*hrs h 6 m)=L*wM par g h (qcq m k)+L*(g k*hrs h 6 m):=Int.mul_add _ _ _;rw[this];exact CE h2 (Int.add_le_add_right h1 _)
end
end
section
noncomputable def mkM (l:List Nat):Nat:=l.foldl (λm k=>m ||| 2 ^ k) 0
theorem qp6:∀(l:List Nat) (m i:Nat),(l.foldl (λm k=>m ||| 2 ^ k) m).testBit i=(m.testBit i||l.contains i):=by
  intro l;induction l with
  | nil=>intro m i;simp
  | cons k l ih=>
    intro m i;rw[Fs,ih,FJ,Eg,List.contains_cons,Bool.or_assoc];congr 2
    rw[B0,decide_eq_true_iff,beq_iff_eq];exact eq_comm
theorem qci (l:List Nat)(i:Nat):(mkM l).testBit i=l.contains i:=by unfold mkM;rw[qp6,DB,Fc]
theorem qkn {l:List Nat}(h:∀k∈l,k<6):mkM l<64:=by
  refine Ee (n:=6) _ λi hi=>?_
  rw[qci];cases e:l.contains i with
  | false=>rfl
  | true=>exact absurd (h i (AQ.mp e)) (A9.mpr hi)
section
variable {g h:Nat->Int}
theorem qvo {w:Nat->Int}{l:List Nat}(hn:l.Nodup)(h6:∀k∈l,k<6):sm w (mkM l).testBit (Ae 6)=tot w l:=by
  refine qkd (Gq.map w ((C2 (DC.filter _) hn).mpr λi=>?_));rw[Bi,Au,qci,AQ];exact ⟨λq=>q.2,λq=>⟨h6 i q,q⟩⟩
theorem qj6 {pre suf:List Nat}(hp:∀k,0<k->par k<k)(hB:(pre ++ suf).Perm (Ae 6))(hl:Lin par (pre ++ suf)):Idl par (mkM pre).testBit:=by
  intro i i0 hi;rw[qci,AQ] at hi ⊢;have hi6:i<6:=Au.mp (hB.mem_iff.mp (Bf _ hi));have hm:par i∈pre ++ suf:=hB.mem_iff.mpr (Au.mpr (Bc (hp i i0) hi6));rcases BZ.mp hm with q | q
  . exact q
  . exact absurd rfl ((BU.mp hl).2.2 i hi (par i) q i0)
theorem qvl (hp:∀k,0<k->par k<k):∀(n:Nat) (pre suf:List Nat),pre.length=n->(pre ++ suf).Perm (Ae 6)->Lin par (pre ++ suf)->wM par g h (mkM pre)<=qbu g h 0 pre:=by
  intro n;induction n with
  | zero=>
    intro pre suf hn _ _;obtain rfl:=List.length_eq_zero_iff.mp hn;exact Ca _
  | succ n ih=>
    intro pre suf hn hB hl;obtain ⟨q,k,rfl⟩:∃q k,pre=q ++ [k]:=⟨pre.dropLast,pre.getLast (List.ne_nil_of_length_eq_add_one hn),(List.dropLast_concat_getLast _).symm⟩
    have hnd:(q ++ [k] ++ suf).Nodup:=hB.nodup_iff.mpr DC;obtain ⟨n1,_,_⟩:=CM.mp hnd;obtain ⟨n2,_,n3⟩:=CM.mp n1;have hkq:k∉q:=λw=>n3 k w k (AE.mpr rfl) rfl
    have h6:∀i∈q ++ [k],i<6:=λi hi=>Au.mp (hB.mem_iff.mp (Bf _ hi))
    have e1:q ++ [k] ++ suf=q ++ ([k] ++ suf):=AF ..;have hq:=ih q ([k] ++ suf) (by rw[An] at hn;exact Nat.succ.inj hn) (e1 ▸ hB) (e1 ▸ hl);have hm:=qkn h6;have hbk:(mkM (q ++ [k])).testBit k=Hq:=by rw[qci,AQ];exact AY _ (AE.mpr rfl)
    have hoff:qcq (mkM (q ++ [k])) k=mkM q:=by
      refine CI λi=>?_
      rw[qcx,qci,qci];by_cases e:k=i
      . subst e;have c1:(q ++ [k]).contains k=Hq:=by rw[AQ];exact AY _ (AE.mpr rfl)
        have c2:q.contains k=Hr:=by
          cases e:q.contains k with
          | false=>rfl
          | true=>exact absurd (AQ.mp e) hkq
        rw[c1,c2,decide_eq_true rfl];rfl
      . rw[decide_eq_false e,C1,B0,AQ,AQ,BZ,AE];exact ⟨λw=>w.resolve_right λz=>e z.symm,.inl⟩
    have hopt:k∈qlg par 6 (mkM (q ++ [k])):=by
      refine Bi.mpr ⟨Au.mpr (h6 k (AY _ (AE.mpr rfl))),Ay.mpr ⟨hbk,?_⟩⟩;rw[hoff];exact (qfh (qkn λi hi=>h6 i (Bf _ hi))).mpr (qj6 hp (e1 ▸ hB) (e1 ▸ hl))
    have h0:0<mkM (q ++ [k]):=Nat.pos_of_ne_zero λe=>by rw[e,DB] at hbk;cases hbk
    have hle:=(qjd (l:=(qlg par 6 (mkM (q ++ [k]))).map λk'=>wM par g h (qcq (mkM (q ++ [k])) k')+g k'*hrs h 6 (mkM (q ++ [k]))) λe=>List.ne_nil_of_mem hopt (Eh.mp e)).2 _ (List.mem_map_of_mem hopt);rw[<- qm8 hm h0,hoff,show hrs h 6 (mkM (q ++ [k]))=tot h (q ++ [k]) from qvo n1 h6] at hle;rw[qio,qdb] at *;rw[show tot h [k]=h k by unfold tot;simp] at hle;rw[show qbu g h (0+tot h q) [k]=g k*(tot h q+h k) by rw[qhc];show g k*(0+tot h q+h k)+0=_;rw[EL,FD]];exact CE hle (Int.add_le_add_right hq _)
end
end
section
theorem qrn {B:List Nat}(hB:B.Perm (Ae 6)):mkM B=63:=by
  refine CI λi=>?_
  have h63:(63:Nat)=2 ^ 6 - 1:=rfl;rw[qci,h63,FE,B0,AQ,decide_eq_true_iff,hB.mem_iff,Au]
section
variable {g h:Nat->Int}
theorem qr0 (hp:∀k,0<k->par k<k)(hh:∀k,0<=h k)(hL:0<L)(W:RowL par g h L bs)(hB:bs.flatten.Perm (Ae 6)):wM par g h 63=qbu g h 0 bs.flatten:=by
  obtain ⟨φ,P⟩:=W.row.pot hh;have e:bs.flatten ++ []=bs.flatten:=AO _;have h1:=qvl (g:=g) (h:=h) hp _ bs.flatten [] rfl (by rw[e];exact hB) (by rw[e];exact W.plan);have hi:=qj6 (pre:=bs.flatten) (suf:=[]) hp (by rw[e];exact hB) (by rw[e];exact W.plan);rw[qrn hB] at h1 hi;have h2:=qt0 hp (AU hL) P hB 64 63 (by decide) (by decide) hi;rw[P.all _ λk hk=>by
    have:=Au.mp (hB.mem_iff.mp hk);have h63:(63:Nat)=2 ^ 6 - 1:=rfl;rw[h63,FE,decide_eq_true this]] at h2
  exact GN h1 (Int.le_of_mul_le_mul_left h2 hL)
end
end
section
section
variable {g h:Nat->Int}
noncomputable def wor (g h:Nat->Int) (L x:Int) (S:Nat->Bool) (B:List Nat):Int:=L*sm g S B+x*sm h S B
noncomputable def qlu (g h:Nat->Int) (L x:Int) (bs:List (List Nat)):Int:=(bs.map λB=>max (rat g h L B+x) 0*tot h B).sum
theorem qm7 {x:Int}(A B:List Nat):wor g h L x S (A ++ B)=wor g h L x S A+wor g h L x S B:=by
  unfold wor;rw[qfm,qfm];grind
theorem qr8 (hh:∀k,0<h k):∀{B:List Nat},sm h S B=tot h B->∀k∈B,S k=Hq:=by
  intro B;induction B with
  | nil=>intro _;exact nofun
  | cons a B ih=>
    intro e;rw[qch,qbc] at e;have h1:=qov (w:=h) (S:=S) (B:=B) λk _=>AU (hh k)
    have h2:=hh a;cases hs:S a with
    | false=>rw[hs,if_neg nofun] at e;lia
    | true=>
      rw[hs,if_pos rfl] at e;intro k hk;rcases Aw.mp hk with rfl | q
      . exact hs
      . exact ih (by simp_all) k q
theorem qr7 (hh:∀k,0<h k):∀{B:List Nat},sm h S B=0->∀k∈B,S k=Hr:=by
  intro B;induction B with
  | nil=>intro _;exact nofun
  | cons a B ih=>
    intro e;rw[qch] at e;have h1:=qj3 (w:=h) (S:=S) (B:=B) λk _=>AU (hh k)
    have h2:=hh a;cases hs:S a with
    | true=>rw[hs,if_pos rfl] at e;lia
    | false=>
      rw[hs,if_neg nofun] at e;intro k hk;rcases Aw.mp hk with rfl | q
      . exact hs
      . exact ih (by simp_all) k q
theorem qss {x:Int}{B:List Nat}(hh:∀k,0<h k)(G:Good par g h L B)(hS:Idl par S):wor g h L x S B<=max (rat g h L B+x) 0*tot h B/\(wor g h L x S B=max (rat g h L B+x) 0*tot h B->(0<rat g h L B+x->∀k∈B,S k=Hq)/\(rat g h L B+x<0->∀k∈B,S k=Hr)):=by
  have a:=G.atom S hS;have h1:=qov (w:=h) (S:=S) (B:=B) λk _=>AU (hh k)
  have h2:=qj3 (w:=h) (S:=S) (B:=B) λk _=>AU (hh k)
  have e:(rat g h L B+x)*sm h S B=rat g h L B*sm h S B+x*sm h S B:=Int.add_mul _ _ _;unfold wor;generalize hr:rat g h L B+x=r at *;rcases Int.lt_trichotomy r 0 with q | q | q
  . rw[Go (AU q),GD];have h3:=Int.mul_nonneg_of_nonpos_of_nonpos (AU q) (Int.neg_nonpos_of_nonneg h2);rw[Int.mul_neg] at h3;refine ⟨by lia,λw=>⟨λz=>absurd z (by lia),λ_=>qr7 hh ?_⟩⟩;rcases Ez h2 with z | z
    . have:=Ed q z;omega
    . exact z.symm
  . rw[q,Int.max_self,GD];rw[q,GD] at e;exact ⟨by simp_all,λ_=>⟨λz=>absurd z (by simp),λz=>absurd z (by simp)⟩⟩
  . rw[Fo (AU q)];have h3:=Fg h1 (AU q);refine ⟨by lia,λw=>⟨λ_=>qr8 hh ?_,λz=>absurd z (by lia)⟩⟩;rcases Ez h1 with z | z
    . have:=Int.mul_lt_mul_of_pos_left z q;omega
    . exact z
theorem qr9 {x:Int}(hh:∀k,0<h k)(hS:Idl par S):∀{bs:List (List Nat)},(∀B∈bs,Good par g h L B)->wor g h L x S bs.flatten<=qlu g h L x bs/\(wor g h L x S bs.flatten=qlu g h L x bs->∀B∈bs,(0<rat g h L B+x->∀k∈B,S k=Hq)/\(rat g h L B+x<0->∀k∈B,S k=Hr)):=by
  intro bs;induction bs with
  | nil=>intro _;exact ⟨by show L*0+x*0<=0;lia,λ_=>nofun⟩
  | cons B bs ih=>
    intro hG;obtain ⟨i1,i2⟩:=ih λA hA=>hG A (Ak _ hA)
    obtain ⟨j1,j2⟩:=qss (x:=x) hh (hG B Ac) hS;rw[Bs,qm7,show qlu g h L x (B::bs)=max (rat g h L B+x) 0*tot h B+qlu g h L x bs from Ce];refine ⟨by omega,λe A hA=>?_⟩;rcases Aw.mp hA with rfl | q
    . exact j2 (by lia)
    . exact i2 (by lia) A q
end
end
section
section
variable {g h:Nat->Int}
theorem qow {x:Int}:∀{bs:List (List Nat)},(∀B∈bs,Good par g h L B)->(∀B∈bs,(0<rat g h L B+x->∀k∈B,S k=Hq)/\(rat g h L B+x<0->∀k∈B,S k=Hr)/\((∀k∈B,S k=Hq)\/∀k∈B,S k=Hr))->wor g h L x S bs.flatten=qlu g h L x bs:=by
  intro bs;induction bs with
  | nil=>intro _ _;show L*0+x*0=0;simp
  | cons B bs ih=>
    intro hG hS;rw[Bs,qm7,show qlu g h L x (B::bs)=max (rat g h L B+x) 0*tot h B+qlu g h L x bs from Ce,ih (λA hA=>hG A (Ak _ hA)) λA hA=>hS A (Ak _ hA)];obtain ⟨s1,s2,s3⟩:=hS B Ac;have e:=qfo (g:=g) (hG B Ac).dv;congr 1
    unfold wor;have e2:(rat g h L B+x)*tot h B=rat g h L B*tot h B+x*tot h B:=Int.add_mul _ _ _;generalize rat g h L B+x=r at *;rcases s3 with a | n
    . rw[qdu a,qdu a];rcases Int.lt_or_le r 0 with q | q
      . have h0:B≠[]:=(hG B Ac).ne;obtain ⟨k,hk⟩:=F0 B h0;exact absurd (a k hk) (by rw[s2 q k hk];exact nofun)
      . rw[Fo q];simp_all
    . rw[qcg n,qcg n];rcases Int.lt_or_le 0 r with q | q
      . obtain ⟨k,hk⟩:=F0 B (hG B Ac).ne;exact absurd (s1 q k hk) (by rw[n k hk];exact nofun)
      . rw[Go q];simp
end
end
section
theorem qxf:∀n:Fin 19,0<(n:Nat)->((n:Nat):Int) ∣ 12252240:=by decide +kernel
theorem qka {h:Nat->Int}(h3:∀k,h k<=3):∀B:List Nat,tot h B<=3*(B.length:Nat):=by
  intro B;induction B with
  | nil=>exact Ca _
  | cons k B ih=>rw[qbc,Bu];have:=h3 k;lia
theorem qma {h:Nat->Int}(h0:∀k,0<h k):∀{B:List Nat},B≠[]->0<tot h B:=by
  intro B hB;cases B with
  | nil=>exact absurd rfl hB
  | cons k B=>
    rw[qbc];have h1:0<=tot h B:=by
      rw[<- qdu (S:=λ_=>Hq) λ_ _=>rfl];exact qj3 λk _=>AU (h0 k)
    have:=h0 k;lia
theorem qea {B:List Nat}(hn:B.Nodup)(h6:∀k∈B,k<6):B.length<=6:=by
  have hp:((Ae 6).filter λi=>B.contains i).Perm B:=(C2 (DC.filter _) hn).mpr λi=>by
    rw[Bi,Au,AQ];exact ⟨λq=>q.2,λq=>⟨h6 i q,q⟩⟩
  rw[<- hp.length_eq];exact BQ _ _
theorem qun {h:Nat->Int}(h0:∀k,0<h k)(h3:∀k,h k<=3)(B:List Nat)(hn:B.Nodup)(h6:∀k∈B,k<6)(hB:B≠[]):tot h B ∣ 12252240:=by
  have a:=qma h0 hB;have b:=qka h3 B;have c:=qea hn h6;obtain ⟨n,hn⟩:=Dz (AU a);rw[hn] at a b ⊢;exact qxf ⟨n,by lia⟩ (by show 0<n;simp_all)
end
section
section
variable {g h:Nat->Int}
noncomputable def pB (g h:Nat->Int) (lf:Bool) (B A:List Nat):Bool:=if lf then decide (rat g h 12252240 B<rat g h 12252240 A) else decide (rat g h 12252240 B<=rat g h 12252240 A)
theorem qvr (B A:List Nat)(e:pB g h lf B A=Hq):rat g h 12252240 B<=rat g h 12252240 A:=by
  cases lf with
  | true=>exact AU (of_decide_eq_true e)
  | false=>exact of_decide_eq_true e
theorem qvq (B A:List Nat)(e:pB g h lf B A=Hr):rat g h 12252240 A<=rat g h 12252240 B:=by
  cases lf with
  | true=>exact CP.mp (of_decide_eq_false e)
  | false=>exact AU (He.mp (of_decide_eq_false e))
abbrev Srt (g h:Nat->Int) (row:List (List Nat)):Prop:=row.Pairwise λA B=>rat g h 12252240 B<=rat g h 12252240 A
theorem qjk {p:List Nat->Bool}{B:List Nat}:∀{row:List (List Nat)},(row.Pairwise λA A'=>p A'=Hq->p A=Hq)->∃r,r<=row.length/\qkt p B row=row.take r ++ [B] ++ row.drop r/\∀j A,row[j]?=ER A->(p A=Hq↔j<r)
  | [],_=>⟨0,Aq _,rfl,λj A e=>by simp at e⟩
  | A::row,hp=>by
    obtain ⟨h1,h2⟩:=AG.mp hp;obtain ⟨r,q1,q2,q3⟩:=qjk h2;cases hA:p A with
    | true=>
      refine ⟨r+1,E0 q1,?_,λj A' e=>?_⟩
      . rw[qks,hA,if_pos rfl,q2];rfl
      . cases j with
        | zero=>cases e;exact ⟨λ_=>B6 _,λ_=>hA⟩
        | succ j=>exact (q3 j A' e).trans Nat.succ_lt_succ_iff.symm
    | false=>
      refine ⟨0,AJ _,?_,λj A' e=>⟨λq=>?_,λq=>absurd q (Cf _)⟩⟩
      . rw[qks,hA];rfl
      . cases j with
        | zero=>cases e;rw[hA] at q;cases q
        | succ j=>have:=h1 A' (Av e) q;rw[hA] at this;cases this
theorem qmy {B:List Nat}(s:Srt g h row):row.Pairwise λA A'=>pB g h lf B A'=Hq->pB g h lf B A=Hq:=s.imp λ{A A'} q e=>by
  cases lf with
  | true=>exact decide_eq_true (FK (of_decide_eq_true e) q)
  | false=>exact decide_eq_true (CE (of_decide_eq_true e) q)
theorem qkx:∀(bs:List (List Nat)) {row:List (List Nat)},Srt g h row->Srt g h (qee (pB g h lf) row bs)
  | [],_,s=>s
  | B::bs,_,s=>qkx bs (qh4 (λA=>qvr B A) (λA=>qvq B A) s)
theorem qpm (p:List Nat->List Nat->Bool)(row as bs:List (List Nat)):qee p row (as ++ bs)=qee p (qee p row as) bs:=List.foldl_append
def N6 (l:List Nat):Prop:=l.Nodup/\∀k∈l,k<6
theorem N6.sub {l l':List Nat}(N:N6 l)(s:GC l' l):N6 l':=⟨s.nodup N.1,λk hk=>N.2 k (s.subset hk)⟩
theorem N6.perm {l l':List Nat}(N:N6 l)(s:l'.Perm l):N6 l':=⟨s.nodup_iff.mpr N.1,λk hk=>N.2 k (s.mem_iff.mp hk)⟩
def Bk (g h:Nat->Int) (B:List Nat):Prop:=0<tot h B/\tot h B<=18/\-30<=tot g B/\tot g B<=30
theorem N6.bk {B:List Nat}(N:N6 B)(h0:∀k,0<h k)(h3:∀k,h k<=3)(g5:∀k,-5<=g k/\g k<=5)(hB:B≠[]):Bk g h B:=by
  have hl:=qea N.1 N.2;have key:∀B:List Nat,tot g B<=5*(B.length:Nat)/\-(5*((B.length:Nat):Int))<=tot g B:=by
    intro B;induction B with
    | nil=>exact ⟨Ca 0,Ca 0⟩
    | cons k B ih=>
      have:=g5 k;rw[qbc,Bu];lia
  have h2:=qka h3 B;have:=key B;exact ⟨qma h0 hB,by lia,by lia,by lia⟩
end
end
section
structure T6 (par:Nat->Nat) (g h:Nat->Int):Prop where
  hp:∀k,0<k->par k<k
  h0:∀k,0<h k
  h3:∀k,h k<=3
  g5:∀k,-5<=g k/\g k<=5
noncomputable abbrev bkF (par:Nat->Nat) (g h:Nat->Int) (lf:Bool) (f v:Nat):List (List Nat):=qk2 par g h 12252240 6 (pB g h lf) f v
section
variable {g h:Nat->Int} (tz:T6 par g h)
include tz
theorem T6.ok {f v:Nat}(hv:v<6)(hf:6<=v+f):RowL par g h 12252240 (bkF par g h lf f v)/\∀k,k∈(bkF par g h lf f v).flatten↔k<6/\Dsn par v k:=
  qv1 tz.hp tz.h0 (λB hn h6 hB=>qun tz.h0 tz.h3 B hn h6 hB) (λB A=>qvr B A) (λB A=>qvq B A) f v hv hf
theorem T6.n6 {f v:Nat}(hv:v<6)(hf:6<=v+f):N6 (bkF par g h lf f v).flatten:=⟨(tz.ok hv hf).1.row.nd,λk hk=>(((tz.ok hv hf).2 k).mp hk).1⟩
theorem T6.ne {f v:Nat}(hv:v<6)(hf:6<=v+f):∀B∈bkF par g h lf f v,B≠[]:=λB hB=>((tz.ok hv hf).1.row.good B hB).ne
theorem T6.kids {f v:Nat}(hv:v<6)(hf:6<=v+(f+1)):N6 (v::((qec par 6 v).flatMap (bkF par g h lf f)).flatten):=by
  have q:=tz.n6 (lf:=lf) hv hf;rw[bkF,qv2,qfw] at q;refine N6.perm q (Gq.cons v ?_);have:=(qdi (pB g h lf) ((qec par 6 v).flatMap (bkF par g h lf f)) []).symm;rw[AO] at this;exact Gq.flatten this
theorem T6.kid {f v c:Nat}(hf:6<=v+(f+1))(hc:c∈qec par 6 v):c<6/\6<=c+f:=by
  obtain ⟨h1,h2,h3⟩:=kidU_mem.mp hc;have:=tz.hp c h2;lia
theorem T6.bk {B:List Nat}(N:N6 B)(hB:B≠[]):Bk g h B:=N.bk tz.h0 tz.h3 tz.g5 hB
theorem T6.kidB {f v:Nat}(hf:6<=v+(f+1)):∀B∈(qec par 6 v).flatMap (bkF par g h lf f),B≠[]:=λB hB=>by
  obtain ⟨c,hc,hB⟩:=Gr.mp hB;obtain ⟨q1,q2⟩:=tz.kid hf hc;exact tz.ne q1 q2 B hB
end
theorem qkp:∀{row:List (List Nat)},(∀B∈row,B≠[])->row.length<=row.flatten.length
  | [],_=>Aq _
  | B::row,h=>by
    have h1:=qkp λA hA=>h A (Ak _ hA)
    have h2:=List.length_pos_iff.mpr (h B Ac);rw[Bs,An,Bu];lia
theorem N6.mem (N:N6 row.flatten){B:List Nat}(hB:B∈row):N6 B:=N.sub (List.sublist_flatten_of_mem hB)
theorem N6.len (N:N6 row.flatten)(h:∀B∈row,B≠[]):row.length<=6:=Af (qkp h) (qea N.1 N.2)
theorem qpl (p:List Nat->List Nat->Bool)(bs row:List (List Nat)):(qee p row bs).length=bs.length+row.length:=by rw[(qdi p bs row).length_eq,An]
end
section
section
variable (par:Nat->Nat)
noncomputable def qc4:Nat->List Nat
  | 0=>[0]
  | p+1=>qc4 p ++ ((qc4 p).filter λm=>decide (p=0)||m.testBit (par p)).map λm=>m ||| 2 ^ p
variable {par}
theorem qhw {m p:Nat}(hm:m<2 ^ p):m ||| 2 ^ p=m+2 ^ p:=by
  have:=Nat.two_pow_add_eq_or_of_lt hm 1;rw[Nat.mul_one] at this;rw[Nat.or_comm,<- this,Nat.add_comm]
theorem qdd:∀(p m:Nat),m∈qc4 par p->m<2 ^ p
  | 0,m,h=>by obtain rfl:=AE.mp h;decide
  | p+1,m,h=>by
    rcases BZ.mp h with h | h
    . exact Bc (qdd p m h) (Nat.pow_lt_pow_right (by decide) (Cw p))
    . obtain ⟨m',h1,rfl⟩:=Bg.mp h;have:=qdd p m' (Bi.mp h1).1;rw[qhw this,Nat.pow_succ];lia
theorem qfd:∀p:Nat,(qc4 par p).Pairwise (· < ·)
  | 0=>EH _ _
  | p+1=>by
    refine BU.mpr ⟨qfd p,?_,λa ha b hb=>?_⟩
    . refine EO.mpr ((qfd p).sublist List.filter_sublist |>.imp_of_mem λ{a b} ha hb h=>?_);rw[qhw (qdd p a (Bi.mp ha).1),qhw (qdd p b (Bi.mp hb).1)];simp_all
    . obtain ⟨m',h1,rfl⟩:=Bg.mp hb;have:=qdd p a ha;rw[qhw (qdd p m' (Bi.mp h1).1)];lia
theorem qr2 {m p:Nat}(hm:m<2 ^ (p+1))(hp:m.testBit p=Hq):qcq m p<2 ^ p/\qcq m p ||| 2 ^ p=m:=by
  constructor
  . refine Ee _ λi hi=>?_
    rw[qcx];rcases C3 hi with h | rfl
    . rw[Bw (Ag hm (Bq (by decide) h)),decide_eq_false (BC h)];rfl
    . rw[hp,decide_eq_true rfl];rfl
  . refine CI λi=>?_
    rw[FJ,qcx,Eg];by_cases h:p=i
    . subst h;rw[hp,decide_eq_true rfl];rfl
    . rw[decide_eq_false h,C1,Bool.or_false]
theorem qtz {m p:Nat}(hm:m<2 ^ (p+1))(hp:m.testBit p=Hr):m<2 ^ p:=by
  refine Ee _ λi hi=>?_
  rcases C3 hi with h | rfl
  . exact Bw (Ag hm (Bq (by decide) h))
  . exact hp
theorem qqd {m p:Nat}:(m ||| 2 ^ p).testBit=adj m.testBit p:=funext λi=>by
  rw[FJ,Eg,adj,Bool.or_comm];congr 1
  by_cases h:p=i
  . subst h;rw[decide_eq_true rfl,beq_self_eq_true]
  . rw[decide_eq_false h,beq_false_of_ne (B5 h)]
theorem qq9 {p:Nat}:qc4 par (p+1)=qc4 par p ++ ((qc4 par p).filter λm=>decide (p=0)||m.testBit (par p)).map λm=>m ||| 2 ^ p:=rfl
theorem qby (hp:∀k,0<k->par k<k):∀(p m:Nat),m∈qc4 par p↔m<2 ^ p/\Idl par m.testBit
  | 0,m=>by
    refine ⟨λh=>?_,λh=>?_⟩
    . obtain rfl:=AE.mp h;exact ⟨by decide,λk _ q=>by rw[DB] at q;cases q⟩
    . have:m=0:=by have:=h.1;simp_all
      rw[this];exact AE.mpr rfl
  | p+1,m=>by
    have ih:=qby hp p;rw[qq9,BZ,ih,Bg];constructor
    . rintro (⟨h1,h2⟩ | ⟨m',h1,rfl⟩)
      . exact ⟨Bc h1 (Nat.pow_lt_pow_right (by decide) (Cw p)),h2⟩
      . obtain ⟨h1,h2⟩:=Bi.mp h1;obtain ⟨h3,h4⟩:=(ih m').mp h1;refine ⟨by rw[qhw h3,Nat.pow_succ];lia,?_⟩;rw[qqd];intro k hk q;by_cases e:k=p
        . subst e;rw[decide_eq_false (CF hk),Fc] at h2;rw[adj,h2,Bool.or_true]
        . rw[qf8 e] at q;rw[adj,h4 k hk q,Bool.or_true]
    . rintro ⟨h1,h2⟩
      cases hb:m.testBit p with
      | false=>exact .inl ⟨qtz h1 hb,h2⟩
      | true=>
        obtain ⟨q1,q2⟩:=qr2 h1 hb;refine .inr ⟨qcq m p,Bi.mpr ⟨(ih _).mpr ⟨q1,λk hk q=>?_⟩,?_⟩,q2⟩
        . have hkp:k<p:=DI.mp λz=>by rw[Bw (Ag q1 (Bq (by decide) z))] at q;cases q
          have hpk:=hp k hk;rw[qcx,decide_eq_false (CF hkp),C1] at q;rw[qcx,decide_eq_false (CF (Bc hpk hkp)),C1];exact h2 k hk q
        . rcases Ey p with z | z
          . rw[decide_eq_true z];rfl
          . have:=hp p z;rw[qcx,h2 p z hb,decide_eq_false (CF this),C1,Bool.or_true]
theorem qhp:∀p:Nat,∃tl,qc4 par p=0::tl
  | 0=>⟨[],rfl⟩
  | p+1=>by
    obtain ⟨tl,h⟩:=qhp p;exact ⟨_,by rw[qq9,h];rfl⟩
theorem qkh (hp:∀k,0<k->par k<k){pre r:List Nat}{m x:Nat}(h:qc4 par 6=pre ++ m::r):x∈pre↔x<m/\Idl par x.testBit:=by
  have hs:=qfd (par:=par) 6;rw[h] at hs;obtain ⟨_,h2,h3⟩:=BU.mp hs;have hm:=(qby hp 6 m).mp (by rw[h];exact AY _ Ac);constructor
  . intro hx;exact ⟨h3 x hx m Ac,((qby hp 6 x).mp (by rw[h];exact Bf _ hx)).2⟩
  . rintro ⟨h4,h5⟩
    have:=(qby hp 6 x).mpr ⟨Bc h4 hm.1,h5⟩;rw[h] at this;rcases BZ.mp this with q | q
    . exact q
    . rcases Aw.mp q with rfl | q
      . exact absurd h4 (C0 _)
      . exact absurd h4 (A9.mpr (Bm ((AG.mp h2).1 x q)))
theorem qtg {w:Nat->Int}{m p:Nat}(hp:p<6)(hm:m<2 ^ p):sm w (m ||| 2 ^ p).testBit (Ae 6)=sm w m.testBit (Ae 6)+w p:=by
  rw[qqd];exact qho DC (Au.mpr hp) (Bw hm)
theorem qtn (hp:∀k,0<k->par k<k){pre r:List Nat}{m:Nat}(h:qc4 par 6=pre ++ m::r):qlg par 6 m=(Ae 6).filter λk=>m.testBit k&&decide (qcq m k∈pre):=by
  have hm:=(qby hp 6 m).mp (by rw[h];exact AY _ Ac);refine DW λk hk=>?_
  cases hb:m.testBit k with
  | false=>rfl
  | true=>
    have hlt:=qhy hm.1 (Au.mp hk) hb;rw[B0,Eo,Eo,decide_eq_true_iff,qkh hp h,qfh (Bc hlt hm.1)];exact ⟨λq=>⟨hlt,q⟩,λq=>q.2⟩
theorem qpj (hp:∀k,0<k->par k<k):63∈qc4 par 6:=(qby hp 6 63).mpr ⟨by decide,λk hk q=>by
  have hk6:k<6:=DI.mp λz=>by rw[Bw (Ag (show 63<2 ^ 6 by decide) (Bq (by decide) z))] at q;cases q
  exact (by decide:∀i:Fin 6,Nat.testBit 63 i=Hq) ⟨par k,Bc (hp k hk) hk6⟩⟩
end
end
section
noncomputable def qsa (A:List Nat) (p r:Nat):List Nat:=A.take p ++ [r] ++ A.drop p
noncomputable def qfe (p:Nat->Bool) (A:List Nat):Nat:=(A.filter p).length
theorem qj7 (p:Nat->Bool)(A:List Nat):qfe p A<=A.length:=BQ _ _
theorem qet {p:Nat->Bool}:∀{A:List Nat},A.Pairwise (λa b=>p b=Hq->p a=Hq)->∀j x,A[j]?=ER x->(p x=Hq↔j<qfe p A)
  | [],_,j,x,h=>by simp at h
  | a::A,hp,j,x,h=>by
    rw[AG] at hp;cases ha:p a with
    | false=>
      have h0:qfe p (a::A)=0:=by
        rw[qfe,EM.mpr]
        . rfl
        . intro y hy q;rcases Aw.mp hy with rfl | hy
          . rw[ha] at q;cases q
          . rw[hp.1 y hy q] at ha;cases ha
      rw[h0];refine ⟨λq=>?_,λq=>absurd q (Cf _)⟩;rcases Aw.mp (Av h) with rfl | hy
      . rw[ha] at q;cases q
      . rw[hp.1 x hy q] at ha;cases ha
    | true=>
      have h0:qfe p (a::A)=qfe p A+1:=by rw[qfe,List.filter_cons_of_pos ha];rfl
      rw[h0];cases j with
      | zero=>cases h;exact ⟨λ_=>B6 _,λ_=>ha⟩
      | succ j=>exact (qet hp.2 j x h).trans Nat.succ_lt_succ_iff.symm
theorem qji {R:Nat->Nat->Prop}{p:Nat->Bool}{A:List Nat}(hp:A.Pairwise (λa b=>p b=Hq->p a=Hq))(hA:A.Pairwise R)(h1:∀x∈A,p x=Hq->R x r)(h2:∀x∈A,p x=Hr->R r x):(qsa A (qfe p A) r).Pairwise R:=by
  unfold qsa;have ht:∀x∈A.take (qfe p A),x∈A/\p x=Hq:=λx hx=>by
    obtain ⟨j,hj⟩:=D6 hx;rw[List.getElem?_take] at hj;by_cases q:j<qfe p A
    . rw[if_pos q] at hj;exact ⟨Av hj,(qet hp j x hj).mpr q⟩
    . rw[if_neg q] at hj;cases hj
  have hd:∀x∈A.drop (qfe p A),x∈A/\p x=Hr:=λx hx=>by
    obtain ⟨j,hj⟩:=D6 hx;rw[DJ] at hj;refine ⟨Av hj,?_⟩;cases hb:p x with
    | false=>rfl
    | true=>have:=(qet hp _ x hj).mp hb;lia
  rw[AF];refine BU.mpr ⟨hA.sublist (List.take_sublist _ _),AG.mpr ⟨λx hx=>h2 x (hd x hx).1 (hd x hx).2,hA.sublist (List.drop_sublist _ _)⟩,?_⟩;intro x hx y hy;rcases Aw.mp hy with rfl | hy
  . exact h1 x (ht x hx).1 (ht x hx).2
  . have:=(Cu (qfe p A) A) ▸ hA;exact (BU.mp this).2.2 x hx y hy
theorem qnp (A:List Nat)(p r:Nat):(qsa A p r).Perm (r::A):=by
  unfold qsa;rw[AF];refine List.perm_middle.trans ?_;show (r::(A.take p ++ A.drop p)).Perm _;rw[Cu]
section
variable (κ:Nat->Int) (lf:Bool)
def LtL (a b:Nat):Prop:=κ a<κ b\/(κ a=κ b/\if lf then b<a else a<b)
noncomputable def pL (j x:Nat):Bool:=if lf then decide (κ x<κ j) else decide (κ x<=κ j)
noncomputable def lnB:Nat->List Nat
  | 0=>[]
  | j+1=>qsa (lnB j) (qfe (pL κ lf j) (lnB j)) j
variable {κ lf}
theorem LtL.le {a:Nat}(h:LtL κ lf a b):κ a<=κ b:=by
  rcases h with h | h
  . exact AU h
  . exact Int.le_of_eq h.1
theorem qu0 {l l':List Nat}(h:l.Perm l')(h1:l.Pairwise (LtL κ lf))(h2:l'.Pairwise (LtL κ lf)):l=l':=by
  refine Gq.eq_of_pairwise (λa b _ _ p q=>?_) h1 h2 h;have:=p.le;have:=q.le;rcases p with p | ⟨p,p'⟩
  . lia
  . rcases q with q | ⟨_,q'⟩
    . simp_all
    . cases lf <;> simp at p' q' <;> lia
theorem qmx {A:List Nat}(h:A.Pairwise (LtL κ lf)):A.Pairwise λa b=>pL κ lf j b=Hq->pL κ lf j a=Hq:=h.imp λ{a b} q e=>by
  have:=q.le;cases lf with
  | true=>exact decide_eq_true (DH this (of_decide_eq_true e))
  | false=>exact decide_eq_true (CE this (of_decide_eq_true e))
theorem qfg:∀j,(lnB κ lf j).Perm (Ae j)
  | 0=>.refl _
  | j+1=>by
    refine (qnp _ _ _).trans (((qfg j).cons j).trans ?_);rw[DN];exact (List.perm_append_singleton j (Ae j)).symm
theorem qko {x:Nat}(h:x∈lnB κ lf j):x<j:=Au.mp ((qfg j).mem_iff.mp h)
theorem qqo (hm:∀a b,a<=b->b<n->κ a<=κ b):∀j,j<=n->(lnB κ lf j).Pairwise (LtL κ lf)
  | 0,_=>.nil
  | j+1,hj=>by
    have ih:=qqo hm j (Nat.le_of_succ_le hj);refine qji (qmx ih) ih (λx hx q=>?_) λx hx q=>?_
    . cases lf with
      | true=>exact .inl (of_decide_eq_true q)
      | false=>
        rcases Ez (of_decide_eq_true q) with q | q
        . exact .inl q
        . exact .inr ⟨q,qko hx⟩
    . have:=hm x j (Bm (qko hx)) hj;cases lf with
      | true=>exact .inr ⟨GN (CP.mp (of_decide_eq_false q)) this,qko hx⟩
      | false=>exact absurd this (of_decide_eq_false q)
theorem qmr (l:List Nat)(hl:l=if lf then (Ae n).reverse else Ae n):l.Pairwise (λa b=>if lf then b<a else a<b)/\l.Perm (Ae n):=by
  subst hl;cases lf with
  | true=>exact ⟨List.pairwise_reverse.mpr (Cj.imp λh=>h),List.reverse_perm _⟩
  | false=>exact ⟨Cj,.refl _⟩
end
section
variable {g h:Nat->Int}
theorem qum {P:List Nat}(hP:Lin par P)(h0:0<k):k∈P->par k∈P->(P.map λx=>((x:Nat):Int)).idxOf ((par k:Nat):Int)<=(P.map λx=>((x:Nat):Int)).idxOf ((k:Nat):Int):=by
  induction P with
  | nil=>intro q;exact absurd q BN
  | cons a P ih=>
    intro h1 h2;obtain ⟨q1,q2⟩:=AG.mp hP;rw[Bp,List.idxOf_cons,List.idxOf_cons];by_cases e:a=par k
    . rw[beq_iff_eq.mpr (congrArg Nat.cast e)];exact AJ _
    . have hp:=(Aw.mp h2).resolve_left (B5 e);have e1:(((a:Nat):Int)==((par k:Nat):Int))=Hr:=beq_false_of_ne λz=>e (Gh z)
      by_cases e2:a=k
      . subst e2;exact absurd rfl (q1 _ hp h0)
      . have hk:=(Aw.mp h1).resolve_left (B5 e2);have e3:(((a:Nat):Int)==((k:Nat):Int))=Hr:=beq_false_of_ne λz=>e2 (Gh z)
        rw[e1,e3];exact E0 (ih q2 hk hp)
theorem qo4 (hp:∀k,0<k->par k<k):∀n k,k<n->Dsn par 0 k
  | 0,k,h=>absurd h (Cf k)
  | n+1,0,_=>.refl
  | n+1,k+1,h=>.step (B6 k) (qo4 hp n (par (k+1)) (Ag (hp (k+1) (B6 k)) (AM h)))
variable (tz:T6 par g h)
include tz
theorem T6.perm:(bkF par g h lf 6 0).flatten.Perm (Ae 6):=by
  refine (C2 (tz.n6 (by decide) (by decide)).1 DC).mpr λk=>?_
  rw[(tz.ok (lf:=lf) (f:=6) (v:=0) (by decide) (by decide)).2 k,Au];exact ⟨λq=>q.1,λq=>⟨q,qo4 tz.hp (k+1) k (Cw k)⟩⟩
theorem T6.lin:Lin par (bkF par g h lf 6 0).flatten:=(tz.ok (by decide) (by decide)).1.plan
theorem T6.waits:wM par g h 63=qbu g h 0 (bkF par g h lf 6 0).flatten:=qr0 tz.hp (λk=>AU (tz.h0 k)) (by decide) (tz.ok (by decide) (by decide)).1 tz.perm
theorem T6.srt:Srt g h (bkF par g h lf 6 0):=(tz.ok (by decide) (by decide)).1.row.srt
theorem T6.len:0<(bkF par g h lf 6 0).length/\(bkF par g h lf 6 0).length<=6:=by
  refine ⟨List.length_pos_iff.mpr λe=>?_,N6.len (tz.n6 (by decide) (by decide)) (tz.ne (by decide) (by decide))⟩;have:=(tz.perm (lf:=lf)).length_eq;rw[e] at this;cases this
theorem T6.bks:∀B∈bkF par g h lf 6 0,Bk g h B:=λB hB=>tz.bk ((tz.n6 (lf:=lf) (f:=6) (v:=0) (by decide) (by decide)).mem hB) (tz.ne (by decide) (by decide) B hB)
end
end
section
theorem qqc (hn:bs.flatten.Nodup){B:List Nat}(hB:bs[j]?=ER B)(hk:k∈B):k∈(bs.take r).flatten↔j<r:=by
  constructor
  . intro h;refine DI.mp λq=>?_
    have h1:k∈(bs.drop r).flatten:=BD.mpr ⟨B,Av (i:=j - r) (by rw[DJ,CU q];exact hB),hk⟩;have h2:((bs.take r).flatten ++ (bs.drop r).flatten).Nodup:=by rw[<- CS,Cu];exact hn
    exact (CM.mp h2).2.2 k h k h1 rfl
  . intro h;exact BD.mpr ⟨B,Av (i:=j) (by rw[List.getElem?_take_of_lt h];exact hB),hk⟩
noncomputable def wvF (g h:Nat->Int) (x:Int) (m:Nat):Int:=hrs g 6 m*12252240+x*hrs h 6 m
section
variable {g h:Nat->Int} {x:Int} (tz:T6 par g h)
include tz
theorem T6.nod:(bkF par g h lf 6 0).flatten.Nodup:=(tz.n6 (by decide) (by decide)).1
theorem T6.wv (m:Nat):wvF g h x m=wor g h 12252240 x m.testBit (bkF par g h lf 6 0).flatten:=by
  rw[wor,qj2 (tz.perm (lf:=lf)),qj2 (tz.perm (lf:=lf)),GA 12252240];rfl
theorem T6.best {m:Nat}(hm:m∈qc4 par 6):wvF g h x m<=qlu g h 12252240 x (bkF par g h lf 6 0)/\(wvF g h x m=qlu g h 12252240 x (bkF par g h lf 6 0)->∀B∈bkF par g h lf 6 0,(0<rat g h 12252240 B+x->∀k∈B,m.testBit k=Hq)/\(rat g h 12252240 B+x<0->∀k∈B,m.testBit k=Hr)):=by
  rw[tz.wv (lf:=lf)];exact qr9 tz.h0 ((qby tz.hp 6 m).mp hm).2 (tz.ok (by decide) (by decide)).1.row.good
theorem T6.pre (hr:∀j B,(bkF par g h lf 6 0)[j]?=ER B->(0<rat g h 12252240 B+x->j<r)/\(rat g h 12252240 B+x<0->r<=j)):mkM ((bkF par g h lf 6 0).take r).flatten∈qc4 par 6/\wvF g h x (mkM ((bkF par g h lf 6 0).take r).flatten)=qlu g h 12252240 x (bkF par g h lf 6 0):=by
  have hp:(((bkF par g h lf 6 0).take r).flatten ++ ((bkF par g h lf 6 0).drop r).flatten)=(bkF par g h lf 6 0).flatten:=by rw[<- CS,Cu]
  constructor
  . refine (qby tz.hp 6 _).mpr ⟨qkn λk hk=>(tz.n6 (lf:=lf) (f:=6) (v:=0) (by decide) (by decide)).2 k (by rw[<- hp];exact Bf _ hk),qj6 (suf:=((bkF par g h lf 6 0).drop r).flatten) tz.hp (by rw[hp];exact tz.perm) (by rw[hp];exact tz.lin)⟩
  . rw[tz.wv (lf:=lf)];refine qow (tz.ok (by decide) (by decide)).1.row.good λB hB=>?_
    obtain ⟨j,hj⟩:=D6 hB;have key:∀k∈B,(mkM ((bkF par g h lf 6 0).take r).flatten).testBit k=decide (j<r):=λk hk=>by
      rw[qci,B0,AQ,decide_eq_true_iff];exact qqc tz.nod hj hk
    obtain ⟨h1,h2⟩:=hr j B hj;refine ⟨λq k hk=>?_,λq k hk=>?_,?_⟩
    . rw[key k hk];exact decide_eq_true (h1 q)
    . rw[key k hk];exact decide_eq_false (A9.mpr (h2 q))
    . by_cases q:j<r
      . exact .inl λk hk=>by rw[key k hk];exact decide_eq_true q
      . exact .inr λk hk=>by rw[key k hk];exact decide_eq_false q
end
noncomputable def mjS (q:Nat->Bool) (p:Nat×Nat) (m:Nat):Nat×Nat:=if q m then (p.1 &&& m,p.2 ||| m) else p
noncomputable def mjF (q:Nat->Bool) (l:List Nat) (p:Nat×Nat):Nat×Nat:=l.foldl (mjS q) p
theorem qqi {q:Nat->Bool}:∀(l:List Nat) (p:Nat×Nat),((mjF q l p).1.testBit i=Hq↔p.1.testBit i=Hq/\∀m∈l,q m=Hq->m.testBit i=Hq)/\((mjF q l p).2.testBit i=Hq↔p.2.testBit i=Hq\/∃m∈l,q m=Hq/\m.testBit i=Hq)
  | [],p=>⟨⟨λh=>⟨h,nofun⟩,λh=>h.1⟩,⟨.inl,λh=>h.elim id λ⟨m,h,_⟩=>absurd h BN⟩⟩
  | m::l,p=>by
    have hq0:((mjF q l (mjS q p m)).1.testBit i=Hq↔_)/\((mjF q l (mjS q p m)).2.testBit i=Hq↔_):=qqi l (mjS q p m);obtain ⟨h1,h2⟩:=hq0;have e:mjF q (m::l) p=mjF q l (mjS q p m):=rfl;rw[e,h1,h2,mjS];cases hq:q m with
    | true=>
      rw[if_pos rfl,Nat.testBit_and,FJ,AH,Bool.or_eq_true];constructor
      . exact ⟨λ⟨⟨a,b⟩,z⟩=>⟨a,λm' hm' hq'=>by
          rcases Aw.mp hm' with rfl | hm'
          . exact b
          . exact z m' hm' hq'⟩,λ⟨a,z⟩=>⟨⟨a,z m Ac hq⟩,λm' hm'=>z m' (Ak _ hm')⟩⟩
      . constructor
        . rintro ((a | b) | ⟨m',h,z⟩)
          . exact .inl a
          . exact .inr ⟨m,Ac,hq,b⟩
          . exact .inr ⟨m',Ak _ h,z⟩
        . rintro (a | ⟨m',h,z1,z2⟩)
          . exact .inl (.inl a)
          . rcases Aw.mp h with rfl | h
            . exact .inl (.inr z2)
            . exact .inr ⟨m',h,z1,z2⟩
    | false=>
      rw[if_neg AL];constructor
      . exact ⟨λ⟨a,z⟩=>⟨a,λm' hm' hq'=>by
          rcases Aw.mp hm' with rfl | hm'
          . rw[hq] at hq';cases hq'
          . exact z m' hm' hq'⟩,λ⟨a,z⟩=>⟨a,λm' hm'=>z m' (Ak _ hm')⟩⟩
      . constructor
        . rintro (a | ⟨m',h,z⟩)
          . exact .inl a
          . exact .inr ⟨m',Ak _ h,z⟩
        . rintro (a | ⟨m',h,z1,z2⟩)
          . exact .inl a
          . rcases Aw.mp h with rfl | h
            . rw[hq] at z1;cases z1
            . exact .inr ⟨m',h,z1,z2⟩
section
variable {g h:Nat->Int} {x:Int} (tz:T6 par g h)
include tz
theorem T6.mj {r1 r2:Nat}(h1:∀j B,(bkF par g h lf 6 0)[j]?=ER B->(0<rat g h 12252240 B+x↔j<r1))(h2:∀j B,(bkF par g h lf 6 0)[j]?=ER B->(0<=rat g h 12252240 B+x↔j<r2)):
    mjF (λm=>wvF g h x m==qlu g h 12252240 x (bkF par g h lf 6 0)) (qc4 par 6) (63,0)=(mkM ((bkF par g h lf 6 0).take r1).flatten,mkM ((bkF par g h lf 6 0).take r2).flatten):=by
  have p1:=tz.pre (lf:=lf) (x:=x) (r:=r1) λj B hB=>⟨(h1 j B hB).mp,λq=>A9.mp λz=>by have:=(h1 j B hB).mpr z;lia⟩
  have p2:=tz.pre (lf:=lf) (x:=x) (r:=r2) λj B hB=>⟨λq=>(h2 j B hB).mp (AU q),λq=>A9.mp λz=>by have:=(h2 j B hB).mpr z;lia⟩
  have hb:=λ(i:Nat)=>qqi (q:=λm=>wvF g h x m==qlu g h 12252240 x (bkF par g h lf 6 0)) (i:=i) (qc4 par 6) (63,0)
  have hlt:∀m∈qc4 par 6,∀i,m.testBit i=Hq->i<6:=λm hm i hi=>DI.mp λz=>by rw[Bw (Ag (qdd 6 m hm) (Bq (by decide) z))] at hi;cases hi
  have hin:∀i,i<6->∃j B,(bkF par g h lf 6 0)[j]?=ER B/\i∈B:=λi hi=>by
    obtain ⟨B,hB,hk⟩:=BD.mp ((tz.perm (lf:=lf)).mem_iff.mpr (Au.mpr hi));obtain ⟨j,hj⟩:=D6 hB;exact ⟨j,B,hj,hk⟩
  have hbit:∀(r i j:Nat) (B:List Nat),(bkF par g h lf 6 0)[j]?=ER B->i∈B->((mkM ((bkF par g h lf 6 0).take r).flatten).testBit i=Hq↔j<r):=λr i j B hj hk=>by
    rw[qci,AQ];exact qqc tz.nod hj hk
  refine Prod.ext (CI λi=>B0.mpr ?_) (CI λi=>B0.mpr ?_)
  . rw[(hb i).1];constructor
    . exact λq=>q.2 _ p1.1 (beq_iff_eq.mpr p1.2)
    . intro q;have hi:=hlt _ p1.1 i q;refine ⟨(by decide:∀i:Fin 6,Nat.testBit 63 i=Hq) ⟨i,hi⟩,λm hm hq=>?_⟩;obtain ⟨j,B,hj,hk⟩:=hin i hi;exact (((tz.best (lf:=lf) (x:=x) hm).2 (beq_iff_eq.mp hq)) B (Av hj)).1 ((h1 j B hj).mpr ((hbit r1 i j B hj hk).mp q)) i hk
  . rw[(hb i).2];constructor
    . rintro (q | ⟨m,hm,hq,hi⟩)
      . rw[DB] at q;cases q
      . have h6:=hlt m hm i hi;obtain ⟨j,B,hj,hk⟩:=hin i h6;refine (hbit r2 i j B hj hk).mpr ((h2 j B hj).mp (CP.mp λz=>?_));rw[(((tz.best (lf:=lf) (x:=x) hm).2 (beq_iff_eq.mp hq)) B (Av hj)).2 z i hk] at hi;cases hi
    . exact λq=>.inr ⟨_,p2.1,beq_iff_eq.mpr p2.2,q⟩
end
end
section
noncomputable def qm4 (m:Nat):List Nat:=(Ae 6).filter m.testBit
theorem qoh {l:List Nat}(hn:l.Nodup)(h6:∀k∈l,k<6):(qm4 (mkM l)).Perm l:=by
  refine (C2 (DC.filter _) hn).mpr λk=>?_
  show k∈(Ae 6).filter (mkM l).testBit↔_;rw[Bi,Au,qci,AQ];exact ⟨λq=>q.2,λq=>⟨h6 k q,q⟩⟩
theorem qst {m:Nat}(h:k∈qm4 m):k<6:=Au.mp (Bi.mp h).1
theorem ql3 (m:Nat):(qm4 m).Pairwise (· < ·):=Cj.filter _
theorem qhh (m:Nat):(qm4 m).length<=6:=Af (BQ _ _) (Bn AW)
theorem qq4:∀m:Fin 64,((qm4 (m:Nat)).map λk=>(2:Int) ^ k).sum=((m:Nat):Int):=by decide +kernel
theorem qmf (b:Nat):∀l:List Nat,((l.map (b + ·)).map λk=>(2:Int) ^ k).sum=(l.map λk=>(2:Int) ^ k).sum*2 ^ b
  | []=>(GD _).symm
  | k::l=>by rw[Bp,Bp,Bp,Ce,Ce,qmf b l,Int.pow_add,Int.add_mul,GA (2 ^ k)]
theorem take_sub (r:Nat):GC (bs.take r).flatten bs.flatten:=by
  have:=BO (bs.take r).flatten (bs.drop r).flatten;rwa[<- CS,Cu] at this
end
section
inductive Own where
  | fz | loc (n:Nat) | aux (n:Nat) | other
set_option genInjectivity false in
structure Lam where
  params:E4
  body:Expr
  scope:Scope
inductive AV where
  | none
  | bool (b:Bool)
  | int (i:Int)
  | str (s:Hv)
  | tup (l:List AV)
  | lst (l:List AV)
  | loc (n:Nat)
  | glob (v:Hw)
  | bound (f:String) (self:AV)
  | clo (l:Lam) (names:List Hv) (caps:List AV)
  | any
set_option genInjectivity false in
inductive AObj where
  | lst (items:List AV)
  | dstr (keys:List Hv) (vals:List AV)
  | dint (keys:List Int) (vals:List AV)
  | fn0
  | elem (attrs:List Hv) (vals:List AV)
  | iter (items:List AV)
  | iterDone
set_option genInjectivity false in
structure Wd where
  prog:Dw
  w:World
  s1:Ab
  mg:Hv->Option Hw
  mb:Hv->Option Hw
  tab:Ht->Prop
  tabEx:∀a,tab a->s1.heap.get? a=ER (EP #[])
  gNs:s1.heap.Ns Br mg
  bNs:s1.heap.Ns Bt mb
  nolim:s1.heap.NoLimit
  gNT:¬tab Br
  bNT:¬tab Bt
  cNT:¬tab cStatics
  sm:∃o,s1.heap.get? Cy=ER o
noncomputable abbrev qat (v:Option Hw):Obj:={ cls:=.type "cell",data:=.cell v }
noncomputable abbrev qa8 (vs:Array Hw) (n:Nat):Obj:={ cls:=.type "list",data:=.seq vs n }
noncomputable abbrev qm9 (vs:Array Hw) (n:Nat):Obj:={ cls:=.type "tuple",data:=.seq vs n }
noncomputable abbrev qof (f:String) (v:Hw):Obj:={ cls:=.type "builtin_function_or_method",data:=.fields #[.builtin f,v] }
def CodeOk (W:Wd) (g:Ht->Own) (h:Heap) (v:Hw):Prop:=
  ∃c o vs q t,v=.ref c/\g c=.other/\¬W.tab c/\h.get? c=ER o/\o.cls=.type "code"/\o.data=.fields vs/\vs[1]?=ER (.str q t)
structure qw4 (W:Wd) (g:Ht->Own) (h:Heap) (l:Lam) (f:Ht) (fd:BV):Prop where
  get:h.get? f=ER { cls:=.type "function",data:=.func fd }
  params:fd.params=l.params
  body:fd.body=.expr l.body
  scope:fd.scope=l.scope
  glob:fd.globals=Br
  blt:fd.builtins=Bt
  dflt:fd.defaults=.none
  kwd:fd.kwdefaults=.none
  code:CodeOk W g h fd.code
mutual
noncomputable def RV (W:Wd) (g:Ht->Own) (h:Heap):AV->Hw->Prop
  | .none,v=>v=.none
  | .bool b,v=>v=.bool b
  | .int i,v=>∃t,v=.int i t
  | .str s,v=>∃t,v=.str s t
  | .tup l,v=>∃a vs n,v=.ref a/\g a=.fz/\h.get? a=ER (qm9 vs n)/\RVs W g h l vs.toList
  | .lst l,v=>∃a vs n,v=.ref a/\g a=.fz/\h.get? a=ER (qa8 vs n)/\RVs W g h l vs.toList
  | .loc n,v=>∃a,v=.ref a/\g a=.loc n
  | .glob w,v=>v=w
  | .bound f self,v=>∃a sv,v=.ref a/\g a=.fz/\h.get? a=ER (qof f sv)/\RV W g h self sv
  | .clo l names caps,v=>∃(a:Ht) (fd:BV) (vs:List Hw),v=.ref a/\g a=.fz/\qw4 W g h l a fd/\RVs W g h caps vs /\
      ∀(i:Nat) (x:Hv),names[i]?=ER x->∃(c:Ht) (u:Hw),fd.closure.lookup x=ER c/\g c=.fz/\vs[i]?=ER u/\h.get? c=ER (qat (ER u))/\W.s1.heap.get? c=Dt
  | .any,_=>True
termination_by structural x=>x
noncomputable def RVs (W:Wd) (g:Ht->Own) (h:Heap):List AV->List Hw->Prop
  | [],vs=>vs=[]
  | a::l,vs=>∃v r,vs=v::r/\RV W g h a v/\RVs W g h l r
termination_by structural x=>x
end
mutual
noncomputable def plain:AV->Bool
  | .tup l=>plains l
  | .lst l=>plains l
  | .bound _ s=>plain s
  | .clo ..=>Hr
  | _=>Hq
termination_by structural x=>x
noncomputable def plains:List AV->Bool
  | []=>Hq
  | a::l=>plain a&&plains l
termination_by structural x=>x
end
noncomputable def RO (W:Wd) (g:Ht->Own) (h:Heap) (a:Ht) (n:Nat):AObj->Prop
  | .lst items=>∃vs k,h.get? a=ER (qa8 vs k)/\RVs W g h items vs.toList
  | .dstr keys vals=>∃vs,h.DictOf (Hx W.prog W.w) a (keys.zip vs)/\keys.length=vs.length/\RVs W g h vals vs
  | .dint keys vals=>∃vs,h.DictOf (Hy W.prog W.w) a (keys.zip vs)/\keys.length=vs.length/\RVs W g h vals vs
  | .fn0=>∃fd,h.get? a=ER { cls:=.type "function",data:=.func fd }
  | .elem attrs vals=>∃fd d mh vs,h.get? a=ER { cls:=.type "function",dict:=ER d,data:=.func fd }/\g d=.aux n/\h.Ns1 d mh/\RVs W g h vals vs /\
      (∀x,mh x=(attrs.zip vs).lookup x)/\attrs.length=vs.length
  | .iter items=>∃(la:Ht) (i:Nat) (vs:Array Hw) (k:Nat),h.IsListIter a la i/\g la=.fz/\h.get? la=ER (qa8 vs k)/\RVs W g h items (vs.toList.drop i)
  | .iterDone=>True
def qqw (W:Wd) (g:Ht->Own) (h:Heap) (P:Ht):Prop:=
  ∃more,h.get? P=ER (EP more)/\TriplesOk more.toList/\∀pos v,E5 pos more.toList=ER v->CodeOk W g h v
noncomputable def qde:AObj->Bool
  | .lst l=>plains l
  | .dstr _ l=>plains l
  | .dint _ l=>plains l
  | .elem _ l=>plains l
  | .iter l=>plains l
  | _=>Hq
structure Rep (W:Wd) (fr:List HA) (g:Ht->Own) (σ:List AObj) (s:Ab):Prop where
  base:∀a o,W.s1.heap.get? a=ER o->¬W.tab a->s.heap.get? a=ER o
  baseO:∀a o,W.s1.heap.get? a=ER o->g a=.other\/g a=.fz
  tabO:∀a,W.tab a->g a=.other
  tabs:∀a,W.tab a->qqw W g s.heap a
  low:∀a,g a≠.other->∃o,s.heap.get? a=ER o
  locs:∀n ao,σ[n]?=ER ao->∃a,g a=.loc n/\RO W g s.heap a n ao
  uniq:∀a b n,g a=.loc n->g b=.loc n->a=b
  pl:∀(n:Nat) (ao:AObj),σ[n]?=ER ao->qde ao=Hq
  bnd:∀a n,(g a=.loc n\/g a=.aux n)->n<σ.length
  frs:∀e∈fr,∃f o es ep,e.frame=ER f/\s.heap.get? f=ER o/\o.data=.dict es ep/\g f=.other/\o.cls=.type "frame"/\W.s1.heap.get? f=Dt/\e.scope.kind≠.module
  gens:s.gens=#[]
  os:s.os=W.s1.os
def KeptO (o:Obj) (r:Option Obj):Prop:=
  (o.cls≠.type "frame"/\r=ER o)\/(o.cls=.type "frame"/\∃sl,r=ER { o with slots:=sl })
theorem KeptO.of {r:Option Obj}(h:r=ER o):KeptO o r:=by
  by_cases hc:o.cls=.type "frame"
  . exact .inr ⟨hc,o.slots,h⟩
  . exact .inl ⟨hc,h⟩
theorem KeptO.get {r:Option Obj}(k:KeptO o r)(hc:o.cls≠.type "frame":=by simp):r=ER o:=k.elim And.right λq=>absurd q.1 hc
theorem KeptO.ex {r:Option Obj}(k:KeptO o r):∃o',r=ER o'/\o'.data=o.data/\o'.cls=o.cls:=by
  rcases k with ⟨_,q⟩ | ⟨_,sl,q⟩
  . exact ⟨o,q,rfl,rfl⟩
  . exact ⟨_,q,rfl,rfl⟩
structure Evo (W:Wd) (X:Ht->Prop) (Y:Nat->Prop) (g:Ht->Own) (h:Heap) (g':Ht->Own) (h':Heap):Prop where
  keep:∀a o,h.get? a=ER o->¬X a->(g a=.fz\/(g a=.other/\¬W.tab a))->KeptO o (h'.get? a)
  keepL:∀a o n,h.get? a=ER o->(g a=.loc n\/g a=.aux n)->¬Y n->h'.get? a=ER o
  fz:∀a,g a=.fz->¬X a->g' a=.fz
  loc:∀a n,g a=.loc n->g' a=.loc n
  aux:∀a n,g a=.aux n->g' a=.aux n
  oth:∀a o,h.get? a=ER o->g a=.other->¬X a->g' a=.other\/(g' a=.fz/\∃v,h'.get? a=ER (qat v))
  tabs:∀a o,W.tab a->h.get? a=ER o->∃o',h'.get? a=ER o'
noncomputable abbrev noX:Ht->Prop:=λ_=>False
noncomputable abbrev noY:Nat->Prop:=λ_=>False
theorem Evo.refl {W:Wd}{X:Ht->Prop}{g:Ht->Own}:Evo W X Y g h g h:=
  ⟨λ_ _ e _ _=>.of e,λ_ _ _ e _ _=>e,λ_ e _=>e,λ_ _ e=>e,λ_ _ e=>e,λ_ _ _ e _=>.inl e,λ_ o _ e=>⟨o,e⟩⟩
theorem Evo.trans {W:Wd}{X:Ht->Prop}{g g' g'':Ht->Own}{h'':Heap}(e:Evo W X Y g h g' h')(f:Evo W X Y g' h' g'' h''):Evo W X Y g h g'' h'' where
  keep:=λa o ho hx hg=>by
    have hg':g' a=.fz\/(g' a=.other/\¬W.tab a):=by
      rcases hg with hg | ⟨hg,hn⟩
      . exact .inl (e.fz a hg hx)
      . rcases e.oth a o ho hg hx with q | q
        . exact .inr ⟨q,hn⟩
        . exact .inl q.1
    rcases e.keep a o ho hx hg with ⟨hc,h1⟩ | ⟨hc,sl,h1⟩
    . exact f.keep a o h1 hx hg'
    . rcases f.keep a _ h1 hx hg' with ⟨hc',_⟩ | ⟨_,sl',h2⟩
      . exact absurd hc hc'
      . exact .inr ⟨hc,sl',h2⟩
  keepL:=λa o n ho hg hy=>f.keepL a o n (e.keepL a o n ho hg hy) (hg.imp (e.loc a n) (e.aux a n)) hy
  fz:=λa hg hx=>f.fz a (e.fz a hg hx) hx
  loc:=λa n hg=>f.loc a n (e.loc a n hg)
  aux:=λa n hg=>f.aux a n (e.aux a n hg)
  oth:=λa o ho hg hx=>by
    rcases e.oth a o ho hg hx with q | ⟨q,v,hv⟩
    . by_cases ht:W.tab a
      . refine Ap (e.tabs a o ht ho) ?_;intro o' ho';exact f.oth a o' ho' q hx
      . refine qa4 ((e.keep a o ho hx (.inr ⟨hg,ht⟩)).ex) ?_;intro o' ho' _;exact f.oth a o' ho' q hx
    . exact .inr ⟨f.fz a q hx,v,(f.keep a _ hv hx (.inl q)).get⟩
  tabs:=λa o ht ho=>by refine Ap (e.tabs a o ht ho) ?_;intro o' ho';exact f.tabs a o' ht ho'
theorem Evo.weak {W:Wd}{X X':Ht->Prop}{Y':Nat->Prop}{g g':Ht->Own}(e:Evo W X Y g h g' h')(hl:∀a,g a≠.other->∃o,h.get? a=ER o)(hX:∀a o,h.get? a=ER o->X a->X' a)(hY:∀n,Y n->Y' n):Evo W X' Y' g h g' h' where
  keep:=λa o ho hx hg=>e.keep a o ho (λq=>hx (hX a o ho q)) hg
  keepL:=λa o n ho hg hy=>e.keepL a o n ho hg λq=>hy (hY n q)
  fz:=λa hg hx=>e.fz a hg λq=>by
    refine Ap (hl a (by rw[hg];nofun)) ?_;intro o ho;exact hx (hX a o ho q)
  loc:=e.loc
  aux:=e.aux
  oth:=λa o ho hg hx=>e.oth a o ho hg (λq=>hx (hX a o ho q))
  tabs:=e.tabs
def XOk (X:Ht->Prop) (g:Ht->Own) (h:Heap):Prop:=
  ∀a,X a->(g a=.other\/(g a=.fz/\∃u,h.get? a=ER (qat u)))/\∀o vs,h.get? a=ER o->o.data=.fields vs->o.cls≠.type "code"
theorem XOk.no {g:Ht->Own}{h:Heap}:XOk noX g h:=λ_ h=>h.elim
theorem CodeOk.mono {W:Wd}{X:Ht->Prop}{g g':Ht->Own}{v:Hw}(e:Evo W X Y g h g' h')(hX:XOk X g h)(c:CodeOk W g h v):CodeOk W g' h' v:=by
  refine qe7 (c) ?_;(try clear c);intro c o vs q t eq_4_5 hg ht ho hc hd hv;subst eq_4_5;have hx:¬X c:=λhx=>(hX c hx).2 o vs ho hd hc
  have ho':=(e.keep c o ho hx (.inr ⟨hg,ht⟩)).get (by rw[hc];simp);refine ⟨c,o,vs,q,t,rfl,?_,ht,ho',hc,hd,hv⟩;rcases e.oth c o ho hg hx with r | ⟨_,u,r⟩
  . exact r
  . rw[ho'] at r;obtain rfl:=Sj r;cases hd
section
variable {W:Wd} {X:Ht->Prop} {g g':Ht->Own}
theorem XOk.not (hX:XOk X g h)(hg:g a=.fz)(ho:h.get? a=ER o)(hc:o.cls≠.type "cell"):¬X a:=λhx=>by
  rcases (hX a hx).1 with q | ⟨_,u,q⟩
  . rw[hg] at q;cases q
  . rw[ho] at q;obtain rfl:=Sj q;exact hc rfl
mutual
theorem RV.mono (e:Evo W X Y g h g' h')(hX:XOk X g h):
    (av:AV)->((∀a,X a->g a=.other)\/plain av=Hq)->(v:Hw)->RV W g h av v->RV W g' h' av v
  | .none,_,v,r=>(r:v=.none)
  | .bool b,_,v,r=>(r:v=.bool b)
  | .int i,_,v,r=>(r:∃t,v=.int i t)
  | .str s,_,v,r=>(r:∃t,v=.str s t)
  | .tup l,hp,v,r=>by
    refine qa1 (r) ?_;intro a vs n eq_5_3 hg ho hr;subst eq_5_3;have hx:¬X a:=hX.not hg ho (λq=>by simp at q);exact ⟨a,vs,n,rfl,e.fz a hg hx,(e.keep a _ ho hx (.inl hg)).get,RVs.mono e hX l hp _ hr⟩
  | .lst l,hp,v,r=>by
    refine qa1 (r) ?_;intro a vs n eq_6_3 hg ho hr;subst eq_6_3;have hx:¬X a:=hX.not hg ho (λq=>by simp at q);exact ⟨a,vs,n,rfl,e.fz a hg hx,(e.keep a _ ho hx (.inl hg)).get,RVs.mono e hX l hp _ hr⟩
  | .loc n,_,v,r=>by
    refine qa4 (r) ?_;intro a eq_7_1 hg;subst eq_7_1;exact ⟨a,rfl,e.loc a n hg⟩
  | .glob w,_,v,r=>(r:v=w)
  | .bound f s,hp,v,r=>by
    refine qaz (r) ?_;intro a sv eq_8_2 hg ho hr;subst eq_8_2;have hx:¬X a:=hX.not hg ho (λq=>by simp at q);exact ⟨a,sv,rfl,e.fz a hg hx,(e.keep a _ ho hx (.inl hg)).get,RV.mono e hX s hp _ hr⟩
  | .clo l names caps,hp,v,r=>by
    have hx:∀a,X a->g a=.other:=hp.resolve_right λq=>nomatch q
    have hn:∀{a},g a=.fz->¬X a:=λhg q=>by rw[hx _ q] at hg;cases hg
    refine qe8 (r) ?_;intro a fd vs eq_9_3 hg hc hr hn';subst eq_9_3;refine ⟨a,fd,vs,rfl,e.fz a hg (hn hg),⟨(e.keep a _ hc.get (hn hg) (.inl hg)).get,hc.params,hc.body,hc.scope,hc.glob,hc.blt,hc.dflt,hc.kwd,hc.code.mono e hX⟩,RVs.mono e hX caps (.inl hx) _ hr,λi x hi=>?_⟩;refine qan (hn' i x hi) ?_;intro c u h1 h2 h3 h4 h5;exact ⟨c,u,h1,e.fz c h2 (hn h2),h3,(e.keep c _ h4 (hn h2) (.inl h2)).get,h5⟩
  | .any,_,_,_=>(Bo:True)
termination_by structural x=>x
theorem RVs.mono (e:Evo W X Y g h g' h')(hX:XOk X g h):
    (l:List AV)->((∀a,X a->g a=.other)\/plains l=Hq)->(vs:List Hw)->RVs W g h l vs->RVs W g' h' l vs
  | [],_,vs,r=>(r:vs=[])
  | a::l,hp,vs,r=>by
    refine qa2 (r) ?_;intro v q eq_11_2 h1 h2;subst eq_11_2;have hp1:(∀a,X a->g a=.other)\/plain a=Hq:=hp.imp id λq=>(Ay.mp q).1
    have hp2:(∀a,X a->g a=.other)\/plains l=Hq:=hp.imp id λq=>(Ay.mp q).2
    exact ⟨v,q,rfl,RV.mono e hX a hp1 _ h1,RVs.mono e hX l hp2 _ h2⟩
termination_by structural x=>x
end
theorem RVs.length:∀{l:List AV} {vs:List Hw},RVs W g h l vs->vs.length=l.length
  | [],vs,r=>by obtain rfl:vs=[]:=r;rfl
  | a::l,vs,r=>by refine qa2 (r) ?_;intro v q eq_12_2 _ h2;subst eq_12_2;rw[Bu,Bu,RVs.length h2]
theorem RVs.get:∀{l:List AV} {vs:List Hw},RVs W g h l vs->∀{i:Nat} {v:Hw},vs[i]?=ER v->∃a,l[i]?=ER a/\RV W g h a v
  | [],vs,r,i,v,e=>by obtain rfl:vs=[]:=r;simp at e
  | a::l,vs,r,i,v,e=>by
    refine qa2 (r) ?_;intro u q eq_13_2 h1 h2;subst eq_13_2;cases i with
    | zero=>simp at e;exact ⟨a,rfl,e ▸ h1⟩
    | succ i=>simp at e;refine qa4 (RVs.get h2 e) ?_;intro b hb hr;exact ⟨b,by simpa using hb,hr⟩
theorem RVs.getA {l:List AV}{vs:List Hw}(r:RVs W g h l vs){a:AV}(e:l[i]?=ER a):∃v,vs[i]?=ER v/\RV W g h a v:=by
  have hi:i<l.length:=(Ar.mp e).1;have hj:i<vs.length:=by rw[r.length];exact hi
  refine qa4 (r.get (Aj hj)) ?_;intro b hb hr;rw[e] at hb;obtain rfl:=Sj hb;exact ⟨_,Aj hj,hr⟩
theorem RVs.append:∀{l:List AV} {vs:List Hw},RVs W g h l vs->∀{l':List AV} {vs':List Hw},RVs W g h l' vs'->RVs W g h (l++l') (vs++vs')
  | [],vs,r,_,_,r'=>by obtain rfl:vs=[]:=r;exact r'
  | a::l,vs,r,_,_,r'=>by refine qa2 (r) ?_;intro v q eq_16_2 h1 h2;subst eq_16_2;exact ⟨v,_,rfl,h1,h2.append r'⟩
theorem RVs.drop:∀{l:List AV} {vs:List Hw},RVs W g h l vs->∀k,RVs W g h (l.drop k) (vs.drop k)
  | _,_,r,0=>r
  | [],vs,r,k+1=>by obtain rfl:vs=[]:=r;exact (rfl:([]:List Hw)=[])
  | a::l,vs,r,k+1=>by refine qa2 (r) ?_;intro v q eq_17_2 h1 h2;subst eq_17_2;exact h2.drop k
theorem RVs.take:∀{l:List AV} {vs:List Hw},RVs W g h l vs->∀k,RVs W g h (l.take k) (vs.take k)
  | _,_,_,0=>(rfl:([]:List Hw)=[])
  | [],vs,r,k+1=>by obtain rfl:vs=[]:=r;exact (rfl:([]:List Hw)=[])
  | a::l,vs,r,k+1=>by refine qa2 (r) ?_;intro v q eq_18_2 h1 h2;subst eq_18_2;exact ⟨v,_,rfl,h1,h2.take k⟩
end
noncomputable def qbw (g:Ht->Own) (a:Ht) (o:Own):Ht->Own:=λb=>if b=a then o else g b
theorem qa3 {g:Ht->Own}{o:Own}:qbw g a o a=o:=if_pos rfl
theorem qa5 {g:Ht->Own}{b:Ht}{o:Own}(h:b≠a):qbw g a o b=g b:=if_neg h
section
variable {W:Wd} {g:Ht->Own} {σ:List AObj} {s:Ab}
theorem RO.mono {X:Ht->Prop}{g g':Ht->Own}(e:Evo W X Y g h g' h')(hX:XOk X g h)(hk:∀o,h.get? a=ER o->h'.get? a=ER o)(hk2:∀d,g d=.aux n->∀o,h.get? d=ER o->h'.get? d=ER o):
    (ao:AObj)->qde ao=Hq->RO W g h a n ao->RO W g' h' a n ao
  | .lst items,hp,r=>by refine qcs (r) ?_;intro vs k ho hr;exact ⟨vs,k,hk _ ho,hr.mono e hX items (.inr hp) _⟩
  | .dstr keys vals,hp,r=>by
    refine qaj (r) ?_;intro vs hd hl hr;refine ⟨vs,?_,hl,hr.mono e hX vals (.inr hp) _⟩;rw[Cp] at hd ⊢;refine qa4 (hd) ?_;intro o ho q;exact ⟨o,hk _ ho,q⟩
  | .dint keys vals,hp,r=>by
    refine qaj (r) ?_;intro vs hd hl hr;refine ⟨vs,?_,hl,hr.mono e hX vals (.inr hp) _⟩;rw[Cp] at hd ⊢;refine qa4 (hd) ?_;intro o ho q;exact ⟨o,hk _ ho,q⟩
  | .fn0,hp,r=>by refine Ap r ?_;intro fd ho;exact ⟨fd,hk _ ho⟩
  | .elem attrs vals,hp,r=>by
    refine qar (r) ?_;intro fd d mh vs ho hd hn hr hm hl;refine ⟨fd,d,mh,vs,hk _ ho,e.aux d n hd,?_,hr.mono e hX vals (.inr hp) _,hm,hl⟩;refine qbs (hn) ?_;intro o es ep q r;exact ⟨o,es,ep,hk2 d hd o q,r⟩
  | .iter items,hp,r=>by
    refine qcr (r) ?_;intro la i vs k ne_28_4 hgl hl hr;refine qaj ne_28_4 ?_;intro o ho hc hd;have hx:¬X la:=hX.not hgl hl (λq=>by simp at q);exact ⟨la,i,vs,k,⟨o,hk _ ho,hc,hd⟩,e.fz la hgl hx,(e.keep la _ hl hx (.inl hgl)).get,hr.mono e hX items (.inr hp) _⟩
  | .iterDone,hp,r=>(Bo:True)
theorem Rep.turn (R:Rep W fr g σ s){g':Ht->Own}(tk:Nat)(C:Ht->Prop)(hC:XOk C g s.heap)(hC1:∀a,C a->W.s1.heap.get? a=Dt)(hg:∀a,¬C a->g' a=g a)(hg':∀a,C a->g' a=.other)(hk:∀a o,s.heap.get? a=ER o->¬C a->h'.get? a=ER o)(hfr:∀a o es n,C a->s.heap.get? a=ER o->o.data=.dict es n->∃o' es' n',h'.get? a=ER o'/\o'.data=.dict es' n'/\o'.cls=o.cls):
    Rep W fr g' σ { s with heap:=h',toks:=tk }/\Evo W C noY g s.heap g' h':=by
  have hnt:∀a,W.tab a->¬C a:=λa ht hc=>by have:=hC1 a hc;rw[W.tabEx a ht] at this;cases this
  have hnb:∀a o,W.s1.heap.get? a=ER o->¬C a:=λa o ho hc=>by rw[hC1 a hc] at ho;cases ho
  have hnL:∀a n,(g a=.loc n\/g a=.aux n)->¬C a:=λa n hq hc=>by
    rcases (hC a hc).1 with q | ⟨q,_⟩ <;> rcases hq with r | r <;> (rw[q] at r;cases r)
  have hLg:∀a n,g' a=.loc n->g a=.loc n:=λa n q=>by
    by_cases hc:C a
    . rw[hg' a hc] at q;cases q
    . rw[<- hg a hc];exact q
  have hAg:∀a n,g' a=.aux n->g a=.aux n:=λa n q=>by
    by_cases hc:C a
    . rw[hg' a hc] at q;cases q
    . rw[<- hg a hc];exact q
  have e:Evo W C noY g s.heap g' h':=⟨λa o ho hx _=>.of (hk a o ho hx),λa o n ho hq _=>hk a o ho (hnL a n hq),λa q hx=>by rw[hg a hx];exact q,λa n q=>by rw[hg a (hnL a n (.inl q))];exact q,
    λa n q=>by rw[hg a (hnL a n (.inr q))];exact q,λa o ho q hx=>.inl (by rw[hg a hx];exact q),λa o ht ho=>⟨o,hk a o ho (hnt a ht)⟩⟩
  refine ⟨⟨λa o ho ht=>hk a o (R.base a o ho ht) (hnb a o ho),λa o ho=>by rw[hg a (hnb a o ho)];exact R.baseO a o ho,
    λa ht=>by rw[hg a (hnt a ht)];exact R.tabO a ht,λa ht=>?_,
    λa ha=>?_,λn ao ho=>?_,λa b n qa qb=>R.uniq a b n (hLg a n qa) (hLg b n qb),R.pl,λa n q=>R.bnd a n (q.imp (hLg a n) (hAg a n)),λen he=>?_,R.gens,R.os⟩,e⟩
  . refine qaj (R.tabs a ht) ?_;intro more h2 h3 h4;exact ⟨more,hk a _ h2 (hnt a ht),h3,λpos v q=>(h4 pos v q).mono e hC⟩
  . by_cases hc:C a
    . exact absurd (hg' a hc) ha
    . refine Ap (R.low a (by rw[<- hg a hc];exact ha)) ?_;intro o ho;exact ⟨o,hk a o ho hc⟩
  . refine qa4 (R.locs n ao ho) ?_;intro a qa hr;exact ⟨a,e.loc a n qa,hr.mono e hC (λo q=>hk a o q (hnL a n (.inl qa))) (λd hd o q=>hk d o q (hnL d n (.inr hd))) ao (R.pl n ao ho)⟩
  . refine qar (R.frs en he) ?_;intro f o es ep h1 h2 h3 h4 h7 h8;by_cases hc:C f
    . refine qap (hfr f o es ep hc h2 h3) ?_;intro o' es' n' h5 h6 h9;exact ⟨f,o',es',n',h1,h5,h6,hg' f hc,h9.trans h7,h8⟩
    . exact ⟨f,o,es,ep,h1,hk f o h2 hc,h3,by rw[hg f hc];exact h4,h7,h8⟩
theorem Rep.slots (R:Rep W fr g σ s)(tk:Nat)(D:Ht->Prop)(hD:∀a,D a->∃e∈fr,e.frame=ER a)(hk:∀a o,s.heap.get? a=ER o->¬D a->h'.get? a=ER o)(hs:∀a o,D a->s.heap.get? a=ER o->∃sl,h'.get? a=ER { o with slots:=sl }):
    Rep W fr g σ { s with heap:=h',toks:=tk }/\Evo W noX noY g s.heap g h':=by
  have hD':∀a,D a->∃o es ep,s.heap.get? a=ER o/\o.data=.dict es ep/\g a=.other/\o.cls=.type "frame"/\W.s1.heap.get? a=Dt:=λa ha=>by
    refine qa4 (hD a ha) ?_;intro e he hf;refine qar (R.frs e he) ?_;intro f o es ep h1 h2 h3 h4 h5 h6;rw[hf] at h1;obtain rfl:=Sj h1;exact ⟨o,es,ep,h2,h3,h4,h5,h6.1⟩
  have hnO:∀a,g a≠.other->¬D a:=λa q hc=>by refine qa1 (hD' a hc) ?_;intro o es ep _ _ h4 _;exact q h4
  have hnb:∀a o,W.s1.heap.get? a=ER o->¬D a:=λa o ho hc=>by refine qe8 (hD' a hc) ?_;intro _ es ep _ _ _ _ h6;rw[h6] at ho;cases ho
  have hnL:∀a n,(g a=.loc n\/g a=.aux n)->¬D a:=λa n hq=>hnO a (by rcases hq with q | q <;> rw[q] <;> exact nofun)
  have hkp:∀a o,s.heap.get? a=ER o->KeptO o (h'.get? a):=λa o ho=>by
    by_cases hc:D a
    . refine qe8 (hD' a hc) ?_;intro o' es ep h2 _ _ h5 _;rw[ho] at h2;obtain rfl:=Sj h2;exact .inr ⟨h5,hs a o hc ho⟩
    . exact .of (hk a o ho hc)
  have hnt:∀a,W.tab a->¬D a:=λa ht=>hnb a _ (W.tabEx a ht)
  have e:Evo W noX noY g s.heap g h':=⟨λa o ho _ _=>hkp a o ho,λa o n ho hq _=>hk a o ho (hnL a n hq),λa q _=>q,λa n q=>q,λa n q=>q,λa o ho q _=>.inl q,λa o ht ho=>⟨o,hk a o ho (hnt a ht)⟩⟩
  have hC:XOk noX g s.heap:=XOk.no;refine ⟨⟨λa o ho ht=>hk a o (R.base a o ho ht) (hnb a o ho),R.baseO,R.tabO,λa ht=>?_,
    λa ha=>?_,λn ao ho=>?_,R.uniq,R.pl,R.bnd,λen he=>?_,R.gens,R.os⟩,e⟩
  . refine qaj (R.tabs a ht) ?_;intro more h2 h3 h4;exact ⟨more,hk a _ h2 (hnt a ht),h3,λpos v q=>(h4 pos v q).mono e hC⟩
  . obtain ⟨o,ho⟩:=R.low a ha;exact ⟨o,hk a o ho (hnO a ha)⟩
  . refine qa4 (R.locs n ao ho) ?_;intro a qa hr;exact ⟨a,qa,hr.mono e hC (λo q=>hk a o q (hnL a n (.inl qa))) (λd hd o q=>hk d o q (hnL d n (.inr hd))) ao (R.pl n ao ho)⟩
  . refine qar (R.frs en he) ?_;intro f o es ep h1 h2 h3 h4 h7 h8;refine qaj ((hkp f o h2).ex) ?_;intro o' h5 h6 h9;exact ⟨f,o',es,ep,h1,h5,h6.trans h3,h4,h9.trans h7,h8⟩
theorem Rep.keeps (R:Rep W fr g σ s)(tk:Nat)(hk:∀a o,s.heap.get? a=ER o->h'.get? a=ER o):
    Rep W fr g σ { s with heap:=h',toks:=tk }/\Evo W noX noY g s.heap g h':=
  R.turn tk noX XOk.no (λ_ h=>h.elim) (λ_ _=>rfl) (λ_ h=>h.elim) (λa o ho _=>hk a o ho) (λ_ _ _ _ h=>h.elim)
theorem Rep.tok (R:Rep W fr g σ s)(tk:Nat):Rep W fr g σ { s with toks:=tk }:=
  (R.keeps (h':=s.heap) tk λ_ _ h=>h).1
theorem qag (h:Heap):h.get? h.objs.size=Dt:=BW (Aq _)
theorem Rep.top (R:Rep W fr g σ s):g s.heap.objs.size=.other:=Df λq=>by
  refine Ap (R.low _ q) ?_;intro o ho;rw[qag] at ho;cases ho
theorem qgj (ho:h.get? a=ER o):a≠h.objs.size:=BC (EQ ho)
theorem Rep.pushEvo (R:Rep W fr g σ s)(o:Obj)(w:Own):Evo W noX Y g s.heap (qbw g s.heap.objs.size w) (s.heap.push o):=by
  have hin:∀{a:Ht},g a≠.other->qbw g s.heap.objs.size w a=g a:=λ{a} hg=>by refine Ap (R.low a hg) ?_;intro o ho;exact qa5 (qgj ho)
  exact ⟨λa o' ho _ _=>.of (Am _ ho),λa o' _ ho _ _=>Am _ ho,λa hg _=>by rw[hin (by rw[hg];nofun)];exact hg,λa n hg=>by rw[hin (by rw[hg];nofun)];exact hg,
      λa n hg=>by rw[hin (by rw[hg];nofun)];exact hg,λa o' ho hg _=>.inl (by rw[qa5 (qgj ho)];exact hg),λa o' _ ho=>⟨o',Am _ ho⟩⟩
theorem Rep.pushG (R:Rep W fr g σ s)(o:Obj)(w:Own)(hf:o.isFreed=Hr){z':List AObj}(hw:(z'=σ/\(w=.fz\/w=.other))\/∃ao,z'=σ++[ao]/\w=.loc σ.length/\qde ao=Hq/\RO W (qbw g s.heap.objs.size w) (s.heap.push o) s.heap.objs.size σ.length ao):
    Rep W fr (qbw g s.heap.objs.size w) z' { s with heap:=s.heap.push o }:=by
  have e:Evo W noX noY g s.heap (qbw g s.heap.objs.size w) (s.heap.push o):=R.pushEvo o w;have hX:XOk noX g s.heap:=XOk.no;have hn:∀{a:Ht} {o':Obj},s.heap.get? a=ER o'->qbw g s.heap.objs.size w a=g a:=λho=>qa5 (qgj ho)
  have hwl:∀a n,qbw g s.heap.objs.size w a=.loc n->(a=s.heap.objs.size/\n=σ.length/\z'.length=σ.length+1)\/g a=.loc n:=λa n hg=>by
    by_cases ha:a=s.heap.objs.size
    . subst ha;rw[qa3] at hg;rcases hw with ⟨_,q | q⟩ | ⟨ao,q1,q,_⟩ <;> rw[q] at hg
      . cases hg
      . cases hg
      . injection hg with hg;exact .inl ⟨rfl,hg.symm,by rw[q1,An];rfl⟩
    . rw[qa5 ha] at hg;exact .inr hg
  have hwa:∀a n,qbw g s.heap.objs.size w a=.aux n->g a=.aux n:=λa n hg=>by
    by_cases ha:a=s.heap.objs.size
    . subst ha;rw[qa3] at hg;rcases hw with ⟨_,q | q⟩ | ⟨ao,_,q,_⟩ <;> rw[q] at hg <;> cases hg
    . rw[qa5 ha] at hg;exact hg
  have hsl:σ.length<=z'.length:=by rcases hw with ⟨q,_⟩ | ⟨ao,q,_⟩ <;> rw[q] <;> simp
  have old:∀(n:Nat) (ao:AObj),σ[n]?=ER ao->∃a,qbw g s.heap.objs.size w a=.loc n/\RO W (qbw g s.heap.objs.size w) (s.heap.push o) a n ao:=λn ao ho=>by
    refine qa4 (R.locs n ao ho) ?_;intro a hg hr;exact ⟨a,e.loc a n hg,hr.mono e hX (λo q=>Am _ q) (λd hd o q=>Am _ q) ao (R.pl n ao ho)⟩
  have split:∀(n:Nat) (ao:AObj),z'[n]?=ER ao->σ[n]?=ER ao\/(n=σ.length/\w=.loc σ.length/\qde ao=Hq/\RO W (qbw g s.heap.objs.size w) (s.heap.push o) s.heap.objs.size σ.length ao):=λn ao ho=>by
    rcases hw with ⟨q,_⟩ | ⟨ao',q,q1,q2,q3⟩
    . rw[q] at ho;exact .inl ho
    . rw[q] at ho;by_cases hn:n<σ.length
      . rw[BI hn] at ho;exact .inl ho
      . rw[BX (Nat.le_of_not_lt hn)] at ho;have hn':n - σ.length=0:=by
          have:=(Ar.mp ho).1;simp at this;assumption
        rw[hn'] at ho;obtain rfl:=Sj ho;exact .inr ⟨by grind,q1,q2,q3⟩
  refine ⟨λa o' ho ht=>Am _ (R.base a o' ho ht),λa o' ho=>?_,
    λa ht=>?_,λa ht=>?_,λa ha=>?_,λn ao ho=>?_,
    λa b n ha hb=>?_,λn ao ho=>?_,λa n hg=>?_,λen he=>?_,R.gens,R.os⟩
  . by_cases ht:W.tab a
    . refine qa4 (R.tabs a ht) ?_;intro more h2 _;rw[hn h2];exact R.baseO a o' ho
    . rw[hn (R.base a o' ho ht)];exact R.baseO a o' ho
  . refine qa4 (R.tabs a ht) ?_;intro more h2 _;rw[hn h2];exact R.tabO a ht
  . refine qaj (R.tabs a ht) ?_;intro more h2 h3 h4;exact ⟨more,Am _ h2,h3,λpos v q=>(h4 pos v q).mono e hX⟩
  . by_cases hq:a=s.heap.objs.size
    . subst hq;exact ⟨o,Al _ hf⟩
    . rw[qa5 hq] at ha;obtain ⟨o',ho'⟩:=R.low a ha;exact ⟨o',Am _ ho'⟩
  . rcases split n ao ho with q | ⟨rfl,q1,q2,q3⟩
    . exact old n ao q
    . exact ⟨_,by rw[qa3];exact q1,q3⟩
  . rcases hwl a n ha with ⟨qa,qn,_⟩ | qa <;> rcases hwl b n hb with ⟨qb,rn,_⟩ | qb
    . rw[qa,qb]
    . have:=R.bnd b n (.inl qb);simp_all
    . have:=R.bnd a n (.inl qa);simp_all
    . exact R.uniq a b n qa qb
  . rcases split n ao ho with q | ⟨rfl,q1,q2,q3⟩
    . exact R.pl n ao q
    . exact q2
  . rcases hg with hg | hg
    . rcases hwl a n hg with ⟨_,q,r⟩ | q
      . simp_all
      . have:=R.bnd a n (.inl q);lia
    . have:=R.bnd a n (.inr (hwa a n hg));lia
  . refine qaf (R.frs en he) ?_;intro f o' es ep h1 h2 h3 h4 h5;exact ⟨f,o',es,ep,h1,Am _ h2,h3,by rw[hn h2];exact h4,h5⟩
theorem Rep.push (R:Rep W fr g σ s)(o:Obj)(w:Own)(hf:o.isFreed=Hr)(hw:w=.fz\/w=.other):
    Rep W fr (qbw g s.heap.objs.size w) σ { s with heap:=s.heap.push o }/\Evo W noX noY g s.heap (qbw g s.heap.objs.size w) (s.heap.push o):=
  ⟨R.pushG o w hf (.inl ⟨rfl,hw⟩),R.pushEvo o w⟩
theorem Rep.pushLoc (R:Rep W fr g σ s)(o:Obj){ao:AObj}(hp:qde ao=Hq)(hr:RO W (qbw g s.heap.objs.size (.loc σ.length)) (s.heap.push o) s.heap.objs.size σ.length ao)(hf:autoParam (o.isFreed=Hr) ap0._auto_1):
    Rep W fr (qbw g s.heap.objs.size (.loc σ.length)) (σ++[ao]) { s with heap:=s.heap.push o }/\Evo W noX noY g s.heap (qbw g s.heap.objs.size (.loc σ.length)) (s.heap.push o):=
  ⟨R.pushG o _ hf (.inr ⟨ao,rfl,rfl,hp,hr⟩),R.pushEvo o _⟩
end
end
variable {l:List AV} {m:List (Option AV)} {v:AV} {g:Ht->Own} {W:Wd} {g':Ht->Own} {vs:List AV} {σ:List AObj} {z':List AObj} {ao:AObj} {m':List (Option AV)} {z1:List AObj} {z2:List AObj} {av:AV} {z3:List AObj} {m1:List (Option AV)} {z'':List AObj} {kv:List AV} {args:List AV} {y:AV} {l':List AV} {m2:List (Option AV)} {v':AV} {acc:List AV} {vals:List AV} {τ:List AObj} {key:AV} {H:AV} {ch:List AV}
section
section
variable {s:Ab}
theorem Evo.setLoc (R:Rep W fr g σ s)(hg:∀b o,s.heap.get? b=ER o->g' b=g b)(hk:∀b o,s.heap.get? b=ER o->g b≠.loc n->g b≠.aux n->h'.get? b=ER o):Evo W noX (·=n) g s.heap g' h':=by
  have hin:∀{a:Ht},g a≠.other->g' a=g a:=λ{a} q=>by refine Ap (R.low a q) ?_;intro o ho;exact hg a o ho
  refine ⟨λa o ho _ hq=>.of (hk a o ho ?_ ?_),λa o j ho hj hy=>hk a o ho (λq=>?_) (λq=>?_),λa q _=>by rw[hin (by rw[q];nofun)];exact q,λa n q=>by rw[hin (by rw[q];nofun)];exact q,λa n q=>by rw[hin (by rw[q];nofun)];exact q,
    λa o ho q _=>.inl (by rw[hg a o ho];exact q),λa o ht ho=>⟨o,hk a o ho (by rw[R.tabO a ht];nofun) (by rw[R.tabO a ht];nofun)⟩⟩
  . rcases hq with q | ⟨q,_⟩ <;> rw[q] <;> nofun
  . rcases hq with q | ⟨q,_⟩ <;> rw[q] <;> nofun
  . rw[q] at hj;rcases hj with hj | hj <;> cases hj;exact hy rfl
  . rw[q] at hj;rcases hj with hj | hj <;> cases hj;exact hy rfl
theorem Rep.setLoc (R:Rep W fr g σ s)(tk:Nat){ao':AObj}(hn:σ[n]?=ER ao)(hg:∀b o,s.heap.get? b=ER o->g' b=g b)(hg2:∀b,s.heap.get? b=Dt->g' b=.other\/((g' b=.aux n\/g' b=.fz)/\∃o,h'.get? b=ER o))(hk:∀b o,s.heap.get? b=ER o->g b≠.loc n->g b≠.aux n->h'.get? b=ER o)(hk2:∀b o,s.heap.get? b=ER o->(g b=.loc n\/g b=.aux n)->∃o',h'.get? b=ER o')(hp:qde ao'=Hq)(hr:∀a,g a=.loc n->RO W g' h' a n ao'):
    Rep W fr g' (σ.set n ao') { s with heap:=h',toks:=tk }:=by
  have e:=Evo.setLoc R hg hk;have hX:XOk noX g s.heap:=XOk.no;have hnl:n<σ.length:=(Ar.mp hn).1;have hcase:∀a,(∃o,s.heap.get? a=ER o)\/s.heap.get? a=Dt:=λa=>by cases s.heap.get? a with | none=>exact .inr rfl | some o=>exact .inl ⟨o,rfl⟩
  have hlc:∀a k,g' a=.loc k->g a=.loc k:=λa k q=>by
    rcases hcase a with ⟨o,ho⟩ | ho
    . rw[<- hg a o ho];exact q
    . rcases hg2 a ho with r | ⟨r | r,_⟩ <;> rw[r] at q <;> cases q
  refine ⟨λa o ho ht=>hk a o (R.base a o ho ht) ?_ ?_,λa o ho=>?_,
    λa ht=>?_,λa ht=>?_,λa ha=>?_,λk ak hk'=>?_,λa b k qa qb=>R.uniq a b k (hlc a k qa) (hlc b k qb),λk ak hk'=>?_,λa k q=>?_,λen he=>?_,R.gens,R.os⟩
  . rcases R.baseO a o ho with q | q <;> rw[q] <;> exact nofun
  . rcases R.baseO a o ho with q | q <;> rw[q] <;> exact nofun
  . by_cases ht:W.tab a
    . refine qa4 (R.tabs a ht) ?_;intro more h2 _;rw[hg a _ h2];exact R.baseO a o ho
    . rw[hg a _ (R.base a o ho ht)];exact R.baseO a o ho
  . refine qa4 (R.tabs a ht) ?_;intro more h2 _;rw[hg a _ h2];exact R.tabO a ht
  . refine qaj (R.tabs a ht) ?_;intro more h2 h3 h4;have q:=R.tabO a ht;exact ⟨more,hk a _ h2 (by rw[q];exact nofun) (by rw[q];exact nofun),h3,λpos v q=>(h4 pos v q).mono e hX⟩
  . rcases hcase a with ⟨o,ho⟩ | ho
    . by_cases q1:g a=.loc n
      . exact hk2 a o ho (.inl q1)
      . by_cases q2:g a=.aux n
        . exact hk2 a o ho (.inr q2)
        . exact ⟨o,hk a o ho q1 q2⟩
    . rcases hg2 a ho with r | ⟨_,r⟩
      . exact absurd r ha
      . exact r
  . by_cases hkn:k=n
    . subst hkn;rw[BK hnl] at hk';obtain rfl:=Sj hk';refine qa4 (R.locs k ao hn) ?_;intro a qa _;exact ⟨a,e.loc a k qa,hr a qa⟩
    . rw[AX (B5 hkn)] at hk';refine qa4 (R.locs k ak hk') ?_;intro a qa ra;refine ⟨a,e.loc a k qa,ra.mono e hX (λo q=>hk a o q ?_ ?_) (λd hd o q=>hk d o q ?_ ?_) ak (R.pl k ak hk')⟩
      . rw[qa];intro q;injection q with q;exact hkn q
      . rw[qa];exact nofun
      . rw[hd];exact nofun
      . rw[hd];intro q;injection q with q;exact hkn q
  . by_cases hkn:k=n
    . subst hkn;rw[BK hnl] at hk';obtain rfl:=Sj hk';exact hp
    . rw[AX (B5 hkn)] at hk';exact R.pl k ak hk'
  . rw[Bv];rcases hcase a with ⟨o,ho⟩ | ho
    . rw[hg a o ho] at q;exact R.bnd a k q
    . rcases hg2 a ho with r | ⟨r | r,_⟩ <;> rw[r] at q
      . rcases q with q | q <;> cases q
      . rcases q with q | q
        . cases q
        . injection q with q;rw[<- q];exact hnl
      . rcases q with q | q <;> cases q
  . refine qaf (R.frs en he) ?_;intro f o es ep h1 h2 h3 h4 h5;exact ⟨f,o,es,ep,h1,hk f o h2 (by rw[h4];exact nofun) (by rw[h4];exact nofun),h3,by rw[hg f o h2];exact h4,h5⟩
theorem Rep.fewer {fr':List HA}(R:Rep W fr g σ s)(h:∀e∈fr',e∈fr):Rep W fr' g σ s:=
  { R with frs:=λe he=>R.frs e (h e he) }
end
mutual
noncomputable def qb5 (b:Nat):AV->Bool
  | .loc n=>decide (n<b)
  | .tup l=>qac b l
  | .lst l=>qac b l
  | .bound _ s=>qb5 b s
  | .clo ..=>Hr
  | _=>Hq
termination_by structural x=>x
noncomputable def qac (b:Nat):List AV->Bool
  | []=>Hq
  | a::l=>qb5 b a&&qac b l
termination_by structural x=>x
end
noncomputable def qdk (b:Nat):AObj->Bool
  | .lst l=>qac b l
  | .dstr _ l=>qac b l
  | .dint _ l=>qac b l
  | .elem _ l=>qac b l
  | .iter l=>qac b l
  | _=>Hq
mutual
noncomputable def frz (b:Nat) (σ:List AObj):AV->AV
  | .loc n=>if n<b then .loc n else match σ[n]? with
    | some (.lst l)=>if qac b l then .lst l else .any
    | _=>.any
  | .tup l=>.tup (qgp b σ l)
  | .lst l=>.lst (qgp b σ l)
  | .bound f s=>if qb5 b s then .bound f s else .any
  | .clo ..=>.any
  | .none=>.none
  | .bool b=>.bool b
  | .int i=>.int i
  | .str s=>.str s
  | .glob v=>.glob v
  | .any=>.any
termination_by structural x=>x
noncomputable def qgp (b:Nat) (σ:List AObj):List AV->List AV
  | []=>[]
  | a::l=>frz b σ a::qgp b σ l
termination_by structural x=>x
end
mutual
theorem qbq:(v:AV)->qb5 b v=Hq->frz b σ v=v
  | .loc n,h=>by have h':decide (n<b)=Hq:=h;show (if n<b then _ else _)=_;rw[if_pos (of_decide_eq_true h')]
  | .tup l,h=>by show AV.tup (qgp b σ l)=_;rw[qb0 l h]
  | .lst l,h=>by show AV.lst (qgp b σ l)=_;rw[qb0 l h]
  | .bound f s,h=>by have h':qb5 b s=Hq:=h;show (if qb5 b s=Hq then AV.bound f s else .any)=_;rw[if_pos h']
  | .clo ..,h=>by cases (h:Hr=Hq)
  | .none,_=>rfl
  | .bool _,_=>rfl
  | .int _,_=>rfl
  | .str _,_=>rfl
  | .glob _,_=>rfl
  | .any,_=>rfl
termination_by structural x=>x
theorem qb0:(l:List AV)->qac b l=Hq->qgp b σ l=l
  | [],_=>rfl
  | a::l,h=>by
    have h':(qb5 b a&&qac b l)=Hq:=h;rw[AH] at h';show frz b σ a::qgp b σ l=_;rw[qbq a h'.1,qb0 l h'.2]
termination_by structural x=>x
end
noncomputable def isL:Option Obj->Bool
  | some ⟨.type "list",Dt,.seq ..,_⟩=>Hq
  | _=>Hr
noncomputable def gx (k:Nat) (g:Ht->Own) (h:Heap):Ht->Own:=λa=>match g a with
  | .loc n=>if n<k then .loc n else bif isL (h.get? a) then .fz else .other
  | .aux n=>if n<k then .aux n else .other
  | o=>o
section
variable {s:Ab}
theorem qfb (e:g a=.fz):gx k g h a=.fz:=by unfold gx;rw[e]
theorem qcc (e:g a=.other):gx k g h a=.other:=by unfold gx;rw[e]
theorem qgo (e:g a=.loc n)(hn:n<k):gx k g h a=.loc n:=by unfold gx;rw[e];exact if_pos hn
theorem qkw (e:g a=.aux n)(hn:n<k):gx k g h a=.aux n:=by unfold gx;rw[e];exact if_pos hn
theorem qsb {m:Nat}{vs:Array Hw}(e:g a=.loc n)(hn:¬n<k)(ho:h.get? a=ER (qa8 vs m)):gx k g h a=.fz:=by
  unfold gx;rw[e];show (if n<k then _ else _)=_;rw[if_neg hn,ho];rfl
theorem qqq (e:g a=.loc n)(hn:¬n<k):gx k g h a=.fz\/gx k g h a=.other:=by
  unfold gx;rw[e];show (if n<k then _ else _)=_\/(if n<k then _ else _)=_;rw[if_neg hn];cases isL (h.get? a)
  . exact .inr rfl
  . exact .inl rfl
theorem qnu (e:g a=.aux n)(hn:¬n<k):gx k g h a=.other:=by unfold gx;rw[e];exact if_neg hn
theorem qez (e:gx k g h a=.loc n):g a=.loc n/\n<k:=by
  cases q:g a with
  | fz=>cases (qfb q).symm.trans e
  | other=>cases (qcc q).symm.trans e
  | aux m=>
    by_cases hm:m<k
    . cases (qkw q hm).symm.trans e
    . cases (qnu q hm).symm.trans e
  | loc m=>
    by_cases hm:m<k
    . obtain rfl:=Own.loc.inj ((qgo q hm).symm.trans e);exact ⟨rfl,hm⟩
    . rcases qqq (h:=h) q hm with r | r <;> cases r.symm.trans e
theorem qlm (e:gx k g h a=.aux n):g a=.aux n/\n<k:=by
  cases q:g a with
  | fz=>cases (qfb q).symm.trans e
  | other=>cases (qcc q).symm.trans e
  | loc m=>
    by_cases hm:m<k
    . cases (qgo q hm).symm.trans e
    . rcases qqq (h:=h) q hm with r | r <;> cases r.symm.trans e
  | aux m=>
    by_cases hm:m<k
    . obtain rfl:=Own.aux.inj ((qkw q hm).symm.trans e);exact ⟨rfl,hm⟩
    . cases (qnu q hm).symm.trans e
mutual
theorem RV.cl:(av:AV)->qb5 k av=Hq->(v:Hw)->RV W g h av v->RV W (gx k g h) h av v
  | .loc n,hc,v,r=>by
    refine qa4 (r) ?_;intro a eq_7_1 hg;subst eq_7_1;have hc':decide (n<k)=Hq:=hc;exact ⟨a,rfl,qgo hg (of_decide_eq_true hc')⟩
  | .tup l,hc,v,r=>by
    refine qa1 (r) ?_;intro a vs n eq_8_3 hg ho hr;subst eq_8_3;exact ⟨a,vs,n,rfl,qfb hg,ho,RVs.cl l hc _ hr⟩
  | .lst l,hc,v,r=>by
    refine qa1 (r) ?_;intro a vs n eq_9_3 hg ho hr;subst eq_9_3;exact ⟨a,vs,n,rfl,qfb hg,ho,RVs.cl l hc _ hr⟩
  | .bound f q,hc,v,r=>by
    refine qaz (r) ?_;intro a sv eq_10_2 hg ho hr;subst eq_10_2;exact ⟨a,sv,rfl,qfb hg,ho,RV.cl q hc _ hr⟩
  | .clo ..,hc,v,r=>by cases (hc:Hr=Hq)
  | .none,_,v,r=>(r:v=.none)
  | .bool b,_,v,r=>(r:v=.bool b)
  | .int i,_,v,r=>(r:∃t,v=.int i t)
  | .str x,_,v,r=>(r:∃t,v=.str x t)
  | .glob w,_,v,r=>(r:v=w)
  | .any,_,v,r=>(Bo:True)
termination_by structural x=>x
theorem RVs.cl:(l:List AV)->qac k l=Hq->(vs:List Hw)->RVs W g h l vs->RVs W (gx k g h) h l vs
  | [],_,vs,r=>(r:vs=[])
  | a::l,hc,vs,r=>by
    refine qa2 (r) ?_;intro v q eq_11_2 h1 h2;subst eq_11_2;have h':(qb5 k a&&qac k l)=Hq:=hc;rw[AH] at h';exact ⟨v,q,rfl,RV.cl a h'.1 _ h1,RVs.cl l h'.2 _ h2⟩
termination_by structural x=>x
end
mutual
theorem RV.exit (R:Rep W fr g σ s):(av:AV)->(v:Hw)->RV W g s.heap av v->RV W (gx k g s.heap) s.heap (frz k σ av) v
  | .loc n,v,r=>by
    refine qa4 (r) ?_;intro a eq_12_1 hg;subst eq_12_1;show RV W (gx k g s.heap) s.heap (if n<k then .loc n else match σ[n]? with | some (.lst l)=>if qac k l then .lst l else .any | _=>.any) _;by_cases hn:n<k
    . rw[if_pos hn];exact ⟨a,rfl,qgo hg hn⟩
    . rw[if_neg hn];split
      . rename_i l e;split
        . rename_i hc;refine qa4 (R.locs n _ e) ?_;intro a' ha' ro;have:a'=a:=R.uniq _ _ _ ha' hg;subst this;refine qcs (ro) ?_;intro vs m ho hr;exact ⟨a',vs,m,rfl,qsb hg hn ho,ho,RVs.cl l hc _ hr⟩
        . exact (Bo:True)
      . exact (Bo:True)
  | .tup l,v,r=>by
    refine qa1 (r) ?_;intro a vs n eq_15_3 hg ho hr;subst eq_15_3;exact ⟨a,vs,n,rfl,qfb hg,ho,RVs.exit R l _ hr⟩
  | .lst l,v,r=>by
    refine qa1 (r) ?_;intro a vs n eq_16_3 hg ho hr;subst eq_16_3;exact ⟨a,vs,n,rfl,qfb hg,ho,RVs.exit R l _ hr⟩
  | .bound f q,v,r=>by
    refine qaz (r) ?_;intro a sv eq_17_2 hg ho hr;subst eq_17_2;show RV W (gx k g s.heap) s.heap (if qb5 k q=Hq then AV.bound f q else .any) _;split
    . rename_i hc;exact ⟨a,sv,rfl,qfb hg,ho,RV.cl q hc _ hr⟩
    . exact (Bo:True)
  | .clo ..,v,r=>(Bo:True)
  | .none,v,r=>(r:v=.none)
  | .bool b,v,r=>(r:v=.bool b)
  | .int i,v,r=>(r:∃t,v=.int i t)
  | .str x,v,r=>(r:∃t,v=.str x t)
  | .glob w,v,r=>(r:v=w)
  | .any,v,r=>(Bo:True)
termination_by structural x=>x
theorem RVs.exit (R:Rep W fr g σ s):(l:List AV)->(vs:List Hw)->RVs W g s.heap l vs->RVs W (gx k g s.heap) s.heap (qgp k σ l) vs
  | [],vs,r=>(r:vs=[])
  | a::l,vs,r=>by
    refine qa2 (r) ?_;intro v q eq_18_2 h1 h2;subst eq_18_2;exact ⟨v,q,rfl,RV.exit R a _ h1,RVs.exit R l _ h2⟩
termination_by structural x=>x
end
theorem CodeOk.exit {v:Hw}(c:CodeOk W g h v):CodeOk W (gx k g h) h v:=by
  refine qn4 (c) ?_;(try clear c);intro c o vs q t eq_19_5 hg r;subst eq_19_5;exact ⟨c,o,vs,q,t,rfl,qcc hg,r⟩
theorem Evo.exit {X:Ht->Prop}{g0:Ht->Own}{h0a:Heap}(e:Evo W X Y g0 h0a g h)(hb:∀a n,(g0 a=.loc n\/g0 a=.aux n)->n<b)(hk:b<=k):Evo W X Y g0 h0a (gx k g h) h:=
  ⟨e.keep,e.keepL,λa q hx=>qfb (e.fz a q hx),λa n q=>qgo (e.loc a n q) (Ag (hb a n (.inl q)) hk),λa n q=>qkw (e.aux a n q) (Ag (hb a n (.inr q)) hk),
    λa o ha q hx=>(e.oth a o ha q hx).imp qcc λr=>⟨qfb r.1,r.2⟩,e.tabs⟩
end
end
section
noncomputable def kcl:AA->Nat
  | .local=>0
  | .cell=>1
  | .free=>1
  | _=>2
set_option genInjectivity false in
structure Cx where
  W:Wd
  Y:Nat->Prop
  nm:List (Hv×AA)
  cd:Hw
structure Fra (C:Cx) (env:HA) (m:List (Option AV)) (g:Ht->Own) (h:Heap):Prop where
  kind:env.scope.kind=.function
  names:∀(i:Nat) (x:Hv) (k:AA),C.nm[i]?=ER (x,k)->∃k',env.kindOf x=ER k'/\kcl k'=kcl k
  nd:∀(i j:Nat) (x:Hv) (k k':AA),C.nm[i]?=ER (x,k)->C.nm[j]?=ER (x,k')->i=j
  glob:env.globals=Br
  blt:env.builtins=Bt
  code:env.code=C.cd
  Lo:g env.locals=.other
  Lz:C.W.s1.heap.get? env.locals=Dt
  ns:∃mh,h.Ns env.locals mh/\∀(i:Nat) (x:Hv) (av:AV),C.nm[i]?=ER (x,.local)->m[i]?=ER (ER av)->∃v,mh x=ER v/\RV C.W g h av v
  cell:∀(i:Nat) (x:Hv) (k:AA),C.nm[i]?=ER (x,k)->kcl k=1->∃c ov,env.cells.lookup x=ER c/\C.W.s1.heap.get? c=Dt/\h.get? c=ER (qat ov)/\(g c=.other\/g c=.fz) /\
    ∀av,m[i]?=ER (ER av)->∃v,ov=ER v/\RV C.W g h av v
  pl:(∀(i:Nat) (x:Hv),C.nm[i]?≠ER (x,.cell))\/(∀(i:Nat) (av:AV),m[i]?=ER (ER av)->plain av=Hq)
  inj:∀(i j:Nat) (x y:Hv) (k:AA) (c:Ht),C.nm[i]?=ER (x,.cell)->C.nm[j]?=ER (y,k)->kcl k=1->env.cells.lookup x=ER c->env.cells.lookup y=ER c->i=j
noncomputable def FX (nm:List (Hv×AA)) (env:HA):Ht->Prop:=λa=>a=env.locals\/∃(i:Nat) (x:Hv),nm[i]?=ER (x,.cell)/\env.cells.lookup x=ER a
structure Room (k:Nat) (fr:List HA) (A:BJ):Prop where
  handled:A.handled=Dt
  depth:A.depth+k<=600
  units:A.units+8*k<=9000
  frames:A.frames=ER fr
section
variable {C:Cx} {s:Ab}
theorem Room.le {k':Nat}(r:Room k fr A)(h:k'<=k):Room k' fr A:=⟨r.handled,by have:=r.depth;lia,by have:=r.units;lia,r.frames⟩
theorem Room.in1 (r:Room (k+1) fr A):Room k fr A.in1:=⟨r.handled,by have:=r.depth;show A.depth+k<=600;lia,by have:=r.units;show A.units+1+8*k<=9000;lia,r.frames⟩
theorem Room.deeper {e:HA}(r:Room (k+1) fr A):Room k (e::fr) (A.deeper e):=
  ⟨r.handled,by have:=r.depth;show A.depth+1+k<=600;lia,by have:=r.units;show A.units+3+8*k<=9000;lia,by show A.frames.map _=_;rw[r.frames];rfl⟩
theorem Room.line (r:Room k fr A):A.units<cLine:=by have:=r.units;have:cLine=9900:=rfl;lia
theorem Room.dep (r:Room k fr A):A.depth<GR:=by have:=r.depth;have:GR=1000:=rfl;lia
theorem qb2 (h:C.W.s1.heap.get? a=Dt):¬C.W.tab a:=λq=>by rw[C.W.tabEx a q] at h;cases h
theorem Fra.evo (F:Fra C env m g h)(e:Evo C.W noX Y g h g' h'):Fra C env m g' h':=by
  have hX:XOk noX g h:=XOk.no;have up:∀av v,RV C.W g h av v->RV C.W g' h' av v:=λav v r=>r.mono e hX av (.inl λ_ q=>q.elim) v
  refine qa4 (F.ns) ?_;intro mh ne_0_1 hm;refine qap ne_0_1 ?_;intro oL es ep hL hLd r;refine qaj ((e.keep _ _ hL (λq=>q) (.inr ⟨F.Lo,qb2 F.Lz⟩)).ex) ?_;intro oL' hL' hLd' _;rw[hLd] at hLd';refine ⟨F.kind,F.names,F.nd,F.glob,F.blt,F.code,?_,F.Lz,⟨mh,⟨oL',es,ep,hL',hLd',r⟩,λi x av h1 h2=>?_⟩,λi x k h1 h2=>?_,F.pl,F.inj⟩
  . rcases e.oth _ _ hL F.Lo (λq=>q) with q | ⟨_,u,q⟩
    . exact q
    . rw[hL'] at q;obtain rfl:=Sj q;cases hLd'
  . refine qa4 (hm i x av h1 h2) ?_;intro v h3 h4;exact ⟨v,h3,up _ _ h4⟩
  . refine qan (F.cell i x k h1 h2) ?_;intro c ov h3 h4 h5 h6 h7;have h5':h'.get? c=ER (qat ov):=(e.keep _ _ h5 (λq=>q) (h6.symm.imp id λq=>⟨q,qb2 h4⟩)).get;refine ⟨c,ov,h3,h4,h5',?_,λav q=>?_⟩
    . rcases h6 with q | q
      . exact (e.oth _ _ h5 q (λq=>q)).imp id (·.1)
      . exact .inr (e.fz _ q λq=>q)
    . refine qa4 (h7 av q) ?_;intro v h8 h9;exact ⟨v,h8,up _ _ h9⟩
theorem Fra.weak (F:Fra C env m g h)(hw:∀(i:Nat) (av:AV),m'[i]?=ER (ER av)->m[i]?=ER (ER av)):Fra C env m' g h:=by
  refine qa4 (F.ns) ?_;intro mh hn hm;refine { F with ns:=⟨mh,hn,λi x av h1 h2=>hm i x av h1 (hw i av h2)⟩,cell:=λi x k h1 h2=>?_,pl:=F.pl.imp id λq i av h=>q i av (hw i av h) };refine qan (F.cell i x k h1 h2) ?_;intro c ov h3 h4 h5 h6 h7;exact ⟨c,ov,h3,h4,h5,h6,λav q=>h7 av (hw i av q)⟩
theorem Fra.xok (F:Fra C env m g h):XOk (FX C.nm env) g h:=by
  intro a ha;rcases ha with rfl | ⟨i,x,hi,hc⟩
  . refine qa4 (F.ns) ?_;intro mh ne_7_1 hm;refine qap ne_7_1 ?_;intro oL es ep hL hLd r;exact ⟨.inl F.Lo,λo vs ho hd=>by rw[hL] at ho;obtain rfl:=Sj ho;rw[hLd] at hd;cases hd⟩
  . refine qan (F.cell i x .cell hi rfl) ?_;intro c ov h3 h4 h5 h6 h7;rw[hc] at h3;obtain rfl:=Sj h3;exact ⟨h6.imp id λq=>⟨q,_,h5⟩,λo vs ho hd=>by rw[h5] at ho;obtain rfl:=Sj ho;cases hd⟩
end
def Ev (C:Cx) (k:Nat) (fr:List HA) (m:List (Option AV)) (σ:List AObj) (e:Expr) (v:AV) (z':List AObj):Prop:=
  ∀(A:BJ) (env:HA) (g:Ht->Own) (s:Ab),Room k fr A->Rep C.W fr g σ s->Fra C env m g s.heap->∀(Q:Hw->Ab->Prop) (E:Hw->Ab->Prop),
    (∀v' g' s',Rep C.W fr g' z' s'->Evo C.W noX C.Y g s.heap g' s'.heap->RV C.W g' s'.heap v v'->Q v' s')->Hs (Hu C.W.prog C.W.w) A (eval e env) Q E s
def Tr (C:Cx) (k:Nat) (fr:List HA) (m:List (Option AV)) (σ:List AObj) (e:Expr) (b:Bool) (z':List AObj):Prop:=
  ∀(A:BJ) (env:HA) (g:Ht->Own) (s:Ab),Room k fr A->Rep C.W fr g σ s->Fra C env m g s.heap->∀(Q:Bool->Ab->Prop) (E:Hw->Ab->Prop),
    (∀g' s',Rep C.W fr g' z' s'->Evo C.W noX C.Y g s.heap g' s'.heap->Q b s')->Hs (Hu C.W.prog C.W.w) A (isTrue e env (eval e env)) Q E s
def Op2 (W:Wd) (Y:Nat->Prop) (k:Nat) (fr:List HA) (σ:List AObj) (t:Hw->Hw->Sem Hw) (a b v:AV) (z':List AObj):Prop:=
  ∀(A:BJ) (g:Ht->Own) (s:Ab) (va vb:Hw),Room k fr A->Rep W fr g σ s->RV W g s.heap a va->RV W g s.heap b vb->∀(Q:Hw->Ab->Prop) (E:Hw->Ab->Prop),
    (∀v' g' s',Rep W fr g' z' s'->Evo W noX Y g s.heap g' s'.heap->RV W g' s'.heap v v'->Q v' s')->Hs (Hu W.prog W.w) A (t va vb) Q E s
def Tv (W:Wd) (Y:Nat->Prop) (k:Nat) (fr:List HA) (σ:List AObj) (a:AV) (b:Bool):Prop:=
  ∀(A:BJ) (g:Ht->Own) (s:Ab) (va:Hw),Room k fr A->Rep W fr g σ s->RV W g s.heap a va->∀(Q:Bool->Ab->Prop) (E:Hw->Ab->Prop),
    (∀g' s',Rep W fr g' σ s'->Evo W noX Y g s.heap g' s'.heap->Q b s')->Hs (Hu W.prog W.w) A (truthy va) Q E s
def Calls (W:Wd) (Y:Nat->Prop) (k:Nat) (fr:List HA) (σ:List AObj) (f:AV) (args:List AV) (kn:List Hv) (kv:List AV) (v:AV) (z':List AObj):Prop:=
  ∀(A:BJ) (g:Ht->Own) (s:Ab) (vf:Hw) (vs ks:List Hw),Room k fr A->Rep W fr g σ s->RV W g s.heap f vf->RVs W g s.heap args vs->RVs W g s.heap kv ks->∀(Q:Hw->Ab->Prop) (E:Hw->Ab->Prop),
    (∀v' g' s',Rep W fr g' z' s'->Evo W noX Y g s.heap g' s'.heap->RV W g' s'.heap v v'->Q v' s')->Hs (Hu W.prog W.w) A (call vf vs (kn.zip ks)) Q E s
section
variable {C:Cx}
theorem RV.up {v:Hw}(r:RV W g h av v)(e:Evo W noX Y g h g' h'):RV W g' h' av v:=
  r.mono e XOk.no av (.inl λ_ q=>q.elim) v
theorem RVs.up {vs:List Hw}(r:RVs W g h l vs)(e:Evo W noX Y g h g' h'):RVs W g' h' l vs:=
  r.mono e XOk.no l (.inl λ_ q=>q.elim) vs
theorem Fra.up (F:Fra C env m g h)(e:Evo C.W noX Y g h g' h'):Fra C env m g' h':=F.evo e
theorem Evo.wk {Y':Nat->Prop}(e:Evo W noX Y g h g' h')(hY:∀n,Y n->Y' n):Evo W noX Y' g h g' h':=
  ⟨e.keep,λa o n ho hg hy=>e.keepL a o n ho hg λq=>hy (hY n q),e.fz,e.loc,e.aux,e.oth,e.tabs⟩
theorem Evo.no (e:Evo W noX noY g h g' h'):Evo W noX Y g h g' h':=e.wk λ_ q=>q.elim
theorem Ia1 {i:Int}:Ev C k fr m σ (.Constant (.int i) n p) (.int i) σ:=λA env g s r R F Q E hQ=>
  wpAny_Constant_int (hQ _ g _ (R.tok _) Evo.refl ⟨_,rfl⟩)
theorem Ia7:Ev C k fr m σ (.Constant (.str x) n p) (.str x) σ:=λA env g s r R F Q E hQ=>
  Calls.Constant_str (hQ _ g _ (R.tok _) Evo.refl ⟨_,rfl⟩)
theorem Iac:Ev C k fr m σ (.Constant .none n p) .none σ:=λA env g s r R F Q E hQ=>
  show Hs _ A (pure .none) Q E s from Ad (hQ _ g _ R Evo.refl rfl)
theorem Ibh {b:Bool}:Ev C k fr m σ (.Constant (.bool b) n p) (.bool b) σ:=λA env g s r R F Q E hQ=>
  show Hs _ A (pure (.bool b)) Q E s from Ad (hQ _ g _ R Evo.refl rfl)
theorem Ibm (hi:C.nm[i]?=ER (x,.local))(hv:m[i]?=ER (ER v))(hd:autoParam ((x==("__debug__":Hv))=Hr) ap1._auto_1):Ev C k fr m σ (.Name x p) v σ:=λA env g s r R F Q E hQ=>by
  refine qa4 (F.ns) ?_;intro mh hn hm;refine qa4 (hm i x v hi hv) ?_;intro w h1 h2;refine qa4 (F.names i x _ hi) ?_;intro k' h3 h4;have:k'=.local:=by cases k' <;> first | rfl | (exact absurd h4 (by decide))
  subst this;exact FL (Fh F.kind h3 hn h1 (hQ _ g _ R Evo.refl h2)) hd
theorem qdz {s:Ab}{c:Ht}{v:Hw}(hk:env.scope.kind=.function)(hx:env.kindOf x=ER kd)(hkd:kcl kd=1)(hc:env.cells.lookup x=ER c)(ho:s.heap.get? c=ER (qat (ER v)))(h:Q v s)(hn:(x==("__classdict__":Hv))=Hr):Hs M A (loadName env x) Q E s:=by
  unfold loadName;have hcell:Hf env x=pure c:=by unfold Hf;rw[hc]
  have hg:∀{Q':Option Hw->Ab->Prop},Q' (ER v) s->Hs M A (cellGet c) Q' E s:=λq=>by
    unfold cellGet;exact Aa (EC ho (Ad q))
  cases kd with
  | «local»=>cases hkd
  | globalExplicit=>cases hkd
  | globalImplicit=>cases hkd
  | cell=>
    simp only[Gi,hk,hx,CY,DD,Bj,if_false];rw[hcell];exact Aa (Ad (Aa (hg (Ad h))))
  | free=>
    simp only[Gi,hk,hx,CY,DD,Bj,if_false,hn];rw[hcell];exact Aa (Ad (Aa (hg (Ad h))))
theorem Ie9 (hi:C.nm[i]?=ER (x,kd))(hk:kcl kd=1)(hv:m[i]?=ER (ER v))(hd:autoParam ((x==("__debug__":Hv))=Hr) ap1._auto_1)(hn:autoParam ((x==("__classdict__":Hv))=Hr) ap1._auto_1):
    Ev C k fr m σ (.Name x p) v σ:=λA env g s r R F Q E hQ=>by
  refine qan (F.cell i x kd hi hk) ?_;intro c ov h3 h4 h5 h6 h7;refine qa4 (h7 v hv) ?_;intro w eq_13_1 h8;subst eq_13_1;refine qa4 (F.names i x _ hi) ?_;intro k' h9 h10;exact FL (qdz F.kind h9 (h10.trans hk) h3 h5 (hQ _ g _ R Evo.refl h8) hn) hd
theorem Ia2 {l r:Expr}{op:Operator}{a b:AV}(hl:Ev C k fr m σ l a z1)(hr:Ev C k fr m z1 r b z2)(ho:Op2 C.W C.Y k fr z2 (CJ op) a b v z'):Ev C k fr m σ (.BinOp l op r p) v z':=
  λA env g s rm R F Q E hQ=>by
  refine wpAny_BinOp (hl A env g s rm R F _ _ λva g1 s1a R1 e1a ra=>?_);refine hr A env g1 s1a rm R1 (F.up e1a) _ _ λvb g2 s2 R2 e2a rb=>?_
  refine ho A g2 s2 va vb rm R2 (ra.up e2a) rb _ _ λv' g3 s3 R3 e3a rv=>?_
  exact hQ v' g3 s3 R3 ((e1a.trans e2a).trans e3a) rv
theorem Op2.ints {t:Hw->Hw->Sem Hw}{a b c:Int}(h:∀(A:BJ) (s:Ab) (ta tb:Tok) (Q:Hw->Ab->Prop) (E:Hw->Ab->Prop),A.handled=Dt->Q (.int c s.toks) { s with toks:=s.toks+1 }->Hs (Hu W.prog W.w) A (t (.int a ta) (.int b tb)) Q E s):
    Op2 W Y k fr σ t (.int a) (.int b) (.int c) σ:=λA g s va vb rm R ha hb Q E hQ=>by
  obtain ⟨ta,rfl⟩:=ha;obtain ⟨tb,rfl⟩:=hb;exact h A s ta tb Q E rm.handled (hQ _ g _ (R.tok _) Evo.refl ⟨_,rfl⟩)
theorem Op2.add {a b:Int}:Op2 W Y k fr σ (CJ .Add) (.int a) (.int b) (.int (a+b)) σ:=Op2.ints λ_ _ _ _ _ _ _ h=>PyProof.Rows.add_int h
theorem Op2.sub {a b:Int}:Op2 W Y k fr σ (CJ .Sub) (.int a) (.int b) (.int (a - b)) σ:=Op2.ints λ_ _ _ _ _ _ _ h=>PyProof.Rows.sub_int' h
theorem Ibu {a b:Int}(hm:Fi a b):Op2 W Y k fr σ (CJ .Mult) (.int a) (.int b) (.int (a*b)) σ:=Op2.ints λ_ _ _ _ _ _ _ h=>PyProof.Rows.mul_int h hm
theorem Op2.fdiv {a b:Int}(hb:b≠0)(hp:Ax.divisionGoesByPylong a b=Hr):Op2 W Y k fr σ (CJ .FloorDiv) (.int a) (.int b) (.int (a.fdiv b)) σ:=Op2.ints λ_ _ _ _ _ _ _ h=>by
  exact PyProof.Rows.floordiv_int hb h (.inl hp)
theorem Iat {a b:Int}(hb:b≠0):Op2 W Y k fr σ (CJ .Mod) (.int a) (.int b) (.int (a.fmod b)) σ:=Op2.ints λ_ _ _ _ _ _ _ h=>PyProof.Rows.mod_int' hb h
end
end
variable {C:Cx}
section
section
variable {s:Ab}
theorem Rep.gNs (R:Rep W fr g σ s):s.heap.Ns Br W.mg:=W.gNs.at' λo e=>R.base _ o e W.gNT
theorem Rep.bNs (R:Rep W fr g σ s):s.heap.Ns Bt W.mb:=W.bNs.at' λo e=>R.base _ o e W.bNT
theorem Rep.nolim (R:Rep W fr g σ s):s.heap.NoLimit:=by
  refine qa4 (W.nolim) ?_;intro mc h1 h2;exact ⟨mc,h1.at' λo e=>R.base _ o e W.cNT,h2⟩
end
section
theorem qbf {s:Ab}(hk:env.scope.kind=.function)(hx:env.kindOf x=ER kd)(hkd:kcl kd=2)(h:Hs M A (loadGlobal env x) Q E s):Hs M A (loadName env x) Q E s:=by
  unfold loadName;cases kd with
  | «local»=>cases hkd
  | cell=>cases hkd
  | free=>cases hkd
  | globalExplicit=>simp only[Gi,hk,hx,CY,DD,Bj,if_false];exact h
  | globalImplicit=>simp only[Gi,hk,hx,CY,DD,Bj,if_false];exact h
theorem Ie7 {v:Hw}(hi:C.nm[i]?=ER (x,.globalImplicit))(hv:C.W.mg x=ER v)(hd:autoParam ((x==("__debug__":Hv))=Hr) ap1._auto_1):Ev C k fr m σ (.Name x p) (.glob v) σ:=λA env g s r R F Q E hQ=>by
  refine qa4 (F.names i x _ hi) ?_;intro k' h9 h10;refine FL (qbf F.kind h9 h10 (Calls.loadGlobal_global (mg:=C.W.mg) (by rw[F.glob];exact R.gNs) hv (hQ _ g _ R Evo.refl rfl))) hd
theorem Idx {v:Hw}(hi:C.nm[i]?=ER (x,.globalImplicit))(hg:C.W.mg x=Dt)(hv:C.W.mb x=ER v)(hd:autoParam ((x==("__debug__":Hv))=Hr) ap1._auto_1):Ev C k fr m σ (.Name x p) (.glob v) σ:=λA env g s r R F Q E hQ=>by
  refine qa4 (F.names i x _ hi) ?_;intro k' h9 h10;refine FL (qbf F.kind h9 h10 (Calls.loadGlobal_builtin (mg:=C.W.mg) (mb:=C.W.mb) (by rw[F.glob];exact R.gNs) hg (by rw[F.blt];exact R.bNs) hv (hQ _ g _ R Evo.refl rfl))) hd
theorem Ev.cmp {l r:Expr}{op:CmpOp}{a b:AV}(hl:Ev C k fr m σ l a z1)(hr:Ev C k fr m z1 r b z2)(ho:Op2 C.W C.Y k fr z2 (Cz op) a b v z')(hm:autoParam (behindInMarks op r=Hr) ap0._auto_1):Ev C k fr m σ (.Compare l [op] [r] p) v z':=
  λA env g s rm R F Q E hQ=>by
  refine wpAny_Compare1 (hl A env g s rm R F _ _ λva g1 s1a R1 e1a ra=>?_) hm;refine hr A env g1 s1a rm R1 (F.up e1a) _ _ λvb g2 s2 R2 e2a rb=>?_
  refine ho A g2 s2 va vb rm R2 (ra.up e2a) rb _ _ λv' g3 s3 R3 e3a rv=>?_
  exact hQ v' g3 s3 R3 ((e1a.trans e2a).trans e3a) rv
theorem Tr.cmp {l r:Expr}{op:CmpOp}{a b:AV}{c:Bool}(hl:Ev C k fr m σ l a z1)(hr:Ev C k fr m z1 r b z2)(ho:Op2 C.W C.Y k fr z2 (Cz op) a b (.bool c) z')(hm:autoParam (behindInMarks op r=Hr) ap0._auto_1):Tr C k fr m σ (.Compare l [op] [r] p) c z':=
  λA env g s rm R F Q E hQ=>by
  refine wpAny_isTrue_Compare1 (hl A env g s rm R F _ _ λva g1 s1a R1 e1a ra=>?_) hm;refine hr A env g1 s1a rm R1 (F.up e1a) _ _ λvb g2 s2 R2 e2a rb=>?_
  refine ho A g2 s2 va vb rm R2 (ra.up e2a) rb _ _ λv' g3 s3 R3 e3a rv=>?_
  obtain rfl:v'=.bool c:=rv;exact F9 (hQ g3 s3 R3 ((e1a.trans e2a).trans e3a))
theorem Tr.val {b:Bool}(he:Ev C k fr m σ e v z')(ht:Tv C.W C.Y k fr z' v b)(hI:autoParam (∀env w,isTrue e env w=(do let v <- w;Dx e.pos;Ea [v] (truthy v))) ap0._auto_1):Tr C k fr m σ e b z':=
  λA env g s rm R F Q E hQ=>by
  refine PyProof.Rows.isTrue_plain (he A env g s rm R F _ _ λva g1 s1a R1 e1a ra=>?_) (hI _ _);exact ht A g1 s1a va rm R1 ra _ _ λg2 s2 R2 e2a=>hQ g2 s2 R2 (e1a.trans e2a)
theorem Ido {b:Bool}(he:Tr C k fr m σ e b z'):Tr C k fr m σ (.UnaryOp .Not e p) (!b) z':=
  λA env g s rm R F Q E hQ=>PyProof.Rows.isTrue_not (he A env g s rm R F _ _ λg1 s1a R1 e1a=>hQ g1 s1a R1 e1a)
def Trs (C:Cx) (k:Nat) (fr:List HA) (m:List (Option AV)) (σ:List AObj) (op:GS) (es:List Expr) (b:Bool) (z':List AObj):Prop:=
  ∀(A:BJ) (env:HA) (g:Ht->Own) (s:Ab),Room k fr A->Rep C.W fr g σ s->Fra C env m g s.heap->∀(Q:Bool->Ab->Prop) (E:Hw->Ab->Prop),
    (∀g' s',Rep C.W fr g' z' s'->Evo C.W noX C.Y g s.heap g' s'.heap->Q b s')->Hs (Hu C.W.prog C.W.w) A (allTrue op es env) Q E s
theorem Ib3 {op:GS}{b:Bool}(h:Trs C k fr m σ op es b z'):Tr C k fr m σ (.BoolOp op es p) b z':=h
theorem Trs.nil {op:GS}:Trs C k fr m σ op [] (op==.And) σ:=λA env g s rm R F Q E hQ=>by
  show Hs _ A (allTrue op [] env) Q E s;exact Ad (hQ g s R Evo.refl)
theorem qf7 (op:GS)(e:Expr)(r:List Expr)(env:HA):allTrue op (e::r) env=(do
    match op,<- isTrue e env (eval e env) with
    | .And,Hr=>pure Hr
    | .Or,Hq=>pure Hq
    | _,_=>allTrue op r env):=by first | rfl | (rw[allTrue];rfl)
theorem Ic0 {r:List Expr}{b c:Bool}(he:Tr C k fr m σ e b z1)(hr:b=Hq->Trs C k fr m z1 .And r c z')(hn:b=Hr->z'=z1):Trs C k fr m σ .And (e::r) (b&&c) z':=λA env g s rm R F Q E hQ=>by
  rw[qf7];refine Aa (he A env g s rm R F _ _ λg1 s1a R1 e1a=>?_);cases b with
  | false=>cases hn rfl;exact Ad (hQ g1 s1a R1 e1a)
  | true=>exact hr rfl A env g1 s1a rm R1 (F.up e1a) _ _ λg2 s2 R2 e2a=>hQ g2 s2 R2 (e1a.trans e2a)
theorem Ibt {r:List Expr}{b c:Bool}(he:Tr C k fr m σ e b z1)(hr:b=Hr->Trs C k fr m z1 .Or r c z')(hn:b=Hq->z'=z1):Trs C k fr m σ .Or (e::r) (b||c) z':=λA env g s rm R F Q E hQ=>by
  rw[qf7];refine Aa (he A env g s rm R F _ _ λg1 s1a R1 e1a=>?_);cases b with
  | true=>cases hn rfl;exact Ad (hQ g1 s1a R1 e1a)
  | false=>exact hr rfl A env g1 s1a rm R1 (F.up e1a) _ _ λg2 s2 R2 e2a=>hQ g2 s2 R2 (e1a.trans e2a)
theorem Ics {a b:Expr}{c:Bool}(ht:Tr C k fr m σ t c z1)(ha:c=Hq->Ev C k fr m z1 a v z')(hb:c=Hr->Ev C k fr m z1 b v z'):Ev C k fr m σ (.IfExp t a b p) v z':=λA env g s rm R F Q E hQ=>by
  refine PyProof.Rows.IfExp_ (ht A env g s rm R F _ _ λg1 s1a R1 e1a=>?_);cases c with
  | true=>exact ha rfl A env g1 s1a rm R1 (F.up e1a) _ _ λv' g2 s2 R2 e2a rv=>hQ v' g2 s2 R2 (e1a.trans e2a) rv
  | false=>exact hb rfl A env g1 s1a rm R1 (F.up e1a) _ _ λv' g2 s2 R2 e2a rv=>hQ v' g2 s2 R2 (e1a.trans e2a) rv
def EvAnd (C:Cx) (k:Nat) (fr:List HA) (m:List (Option AV)) (σ:List AObj) (es:List Expr) (v:AV) (z':List AObj):Prop:=
  ∀(A:BJ) (env:HA) (g:Ht->Own) (s:Ab) (p:Pos),Room k fr A->Rep C.W fr g σ s->Fra C env m g s.heap->∀(Q:Hw->Ab->Prop) (E:Hw->Ab->Prop),
    (∀v' g' s',Rep C.W fr g' z' s'->Evo C.W noX C.Y g s.heap g' s'.heap->RV C.W g' s'.heap v v'->Q v' s')->Hs (Hu C.W.prog C.W.w) A (boolOp p .And (GT es env)) Q E s
theorem qbk (e:Expr)(r:List Expr)(env:HA):GT (e::r) env=eval e env::GT r env:=rfl
theorem qii (env:HA):GT [] env=[]:=rfl
theorem EvAnd.one (he:Ev C k fr m σ e v z'):EvAnd C k fr m σ [e] v z':=λA env g s p rm R F Q E hQ=>by
  rw[qbk,qii];exact he A env g s rm R F Q E hQ
theorem EvAnd.cons {f:Expr}{r:List Expr}(he:Ev C k fr m σ e (.bool Hq) z1)(hr:EvAnd C k fr m z1 (f::r) v z'):EvAnd C k fr m σ (e::f::r) v z':=λA env g s p rm R F Q E hQ=>by
  rw[qbk,qbk];refine Aa (m:=eval e env) (he A env g s rm R F _ _ λva g1 s1a R1 e1a ra=>?_);obtain rfl:va=.bool Hq:=ra;refine Aa (AS (Aa (AK (F9 ?_))));have:=hr A env g1 s1a p rm R1 (F.up e1a) Q E λv' g2 s2 R2 e2a rv=>hQ v' g2 s2 R2 (e1a.trans e2a) rv
  rw[qbk] at this;exact this
theorem Ic6 (h:EvAnd C k fr m σ es v z'):Ev C k fr m σ (.BoolOp .And es p) v z':=λA env g s rm R F Q E hQ=>h A env g s p rm R F Q E hQ
theorem Icq {i:Int}(he:Ev C k fr m σ e (.int i) z'):Ev C k fr m σ (.UnaryOp .USub e p) (.int (-i)) z':=λA env g s rm R F Q E hQ=>by
  show Hs _ A (do let v <- eval e env;Dx p;Ea [v] (unaryOp .USub v)) Q E s;refine Aa (he A env g s rm R F _ _ λva g1 s1a R1 e1a ra=>?_);obtain ⟨t,rfl⟩:=ra;exact Aa (AS (AK (PyProof.Rows.neg_int (hQ _ g1 _ (R1.tok _) e1a ⟨_,rfl⟩))))
def Evs (C:Cx) (k:Nat) (fr:List HA) (m:List (Option AV)) (σ:List AObj) (es:List Expr) (vs:List AV) (z':List AObj):Prop:=
  ∀(A:BJ) (env:HA) (g:Ht->Own) (s:Ab) (p:Pos),Room k fr A->Rep C.W fr g σ s->Fra C env m g s.heap->∀(Q:List Hw->Ab->Prop) (E:Hw->Ab->Prop),
    (∀vs' g' s',Rep C.W fr g' z' s'->Evo C.W noX C.Y g s.heap g' s'.heap->RVs C.W g' s'.heap vs vs'->Q vs' s')->Hs (Hu C.W.prog C.W.w) A (spliced (Ft p (CV es env))) Q E s
theorem Evs.nil:Evs C k fr m σ [] [] σ:=λA env g s p rm R F Q E hQ=>Calls.spliced_nil (hQ [] g s R Evo.refl rfl)
theorem Evs.cons {r:List Expr}(he:Ev C k fr m σ e v z1)(hr:Evs C k fr m z1 r vs z')(hs:autoParam (∀env,CV (e::r) env=(Hr,eval e env)::CV r env) ap0._auto_1):Evs C k fr m σ (e::r) (v::vs) z':=
  λA env g s p rm R F Q E hQ=>by
  rw[hs];show Hs _ A (spliced ((Hr,eval e env)::Ft p (CV r env))) Q E s;refine Calls.spliced_cons (he A env g s rm R F _ _ λva g1 s1a R1 e1a ra=>?_);exact hr A env g1 s1a p rm R1 (F.up e1a) _ _ λvs' g2 s2 R2 e2a rv=>hQ _ g2 s2 R2 (e1a.trans e2a) ⟨va,vs',rfl,ra.up e2a,rv⟩
theorem Rep.newFz {s:Ab}(R:Rep W fr g σ s)(o:Obj)(hf:autoParam (o.isFreed=Hr) ap0._auto_1):Rep W fr (qbw g s.heap.objs.size .fz) σ { s with heap:=s.heap.push o }/\Evo W noX noY g s.heap (qbw g s.heap.objs.size .fz) (s.heap.push o):=
  R.push o .fz hf (.inl rfl)
theorem Ev.tuple (h:Evs C k fr m σ es vs z')(hz:autoParam (vs.length<=Ai) ap2._auto_1):Ev C k fr m σ (.Tuple es n p) (.tup vs) z':=λA env g s rm R F Q E hQ=>by
  refine PyProof.Rows.Tuple_ (h A env g s p rm R F _ _ λvs' g1 s1a R1 e1a rv=>?_);refine AC ?_ (R1.newFz (qm9 vs'.toArray 0));intro R2 e2a;refine Bx (hQ _ _ _ R2 (e1a.trans e2a.no) ⟨_,_,_,rfl,qa3,Al _ rfl,by simpa using rv.up e2a⟩) ?_;show vs'.toArray.size<=Ai;rw[Cb,rv.length];exact hz
theorem Ev.list (h:Evs C k fr m σ es vs z')(hz:autoParam (vs.length<=Ai) ap2._auto_1):Ev C k fr m σ (.List es p) (.lst vs) z':=λA env g s rm R F Q E hQ=>by
  refine PyProof.Rows.List_ (h A env g s p rm R F _ _ λvs' g1 s1a R1 e1a rv=>?_);refine AC ?_ (R1.newFz (qa8 vs'.toArray 0));intro R2 e2a;refine Bx (hQ _ _ _ R2 (e1a.trans e2a.no) ⟨_,_,_,rfl,qa3,Al _ rfl,by simpa using rv.up e2a⟩) ?_;show vs'.toArray.size<=Ai;rw[Cb,rv.length];exact hz
theorem Ias (h:Evs C k fr m σ es vs z')(hp:autoParam (plains vs=Hq) ap0._auto_1)(hz:autoParam (vs.length<=Ai) ap2._auto_1):Ev C k fr m σ (.List es p) (.loc z'.length) (z'++[.lst vs]):=λA env g s rm R F Q E hQ=>by
  refine PyProof.Rows.List_ (h A env g s p rm R F _ _ λvs' g1 s1a R1 e1a rv=>?_);have e2a:Evo C.W noX C.Y g1 s1a.heap (qbw g1 s1a.heap.objs.size (.loc z'.length)) (s1a.heap.push (qa8 vs'.toArray 0)):=
    (R1.pushEvo (qa8 vs'.toArray 0) (.loc z'.length))
  refine AC ?_ (R1.pushLoc (qa8 vs'.toArray 0) (ao:=.lst vs) hp ⟨vs'.toArray,0,Al _ rfl,by simpa using rv.up e2a⟩);intro R2 e3a;refine Bx (hQ _ _ _ R2 (e1a.trans e3a.no) ⟨_,rfl,qa3⟩) ?_;show vs'.toArray.size<=Ai;rw[Cb,rv.length];exact hz
end
end
section
def Lv (σ:List AObj) (v:AV) (l:List AV):Prop:=v=.lst l\/∃n:Nat,v=.loc n/\σ[n]?=ER (.lst l)
theorem Lv.fz:Lv σ (.lst l) l:=.inl rfl
theorem Lv.loc (h:σ[n]?=ER (.lst l)):Lv σ (.loc n) l:=.inr ⟨n,rfl,h⟩
theorem Lv.at {s:Ab}(L:Lv σ v l)(R:Rep W fr g σ s)(r:RV W g s.heap v va):
    ∃(a:Ht) (vs:Array Hw) (n:Nat),va=.ref a/\s.heap.get? a=ER (qa8 vs n)/\RVs W g s.heap l vs.toList/\(g a=.fz\/∃n,g a=.loc n):=by
  rcases L with rfl | ⟨n,rfl,e⟩
  . refine qa1 (r) ?_;intro a vs n eq_0_3 hg ho hr;subst eq_0_3;exact ⟨a,vs,n,rfl,ho,hr,.inl hg⟩
  . refine qa4 (r) ?_;intro a eq_1_1 hg;subst eq_1_1;refine qjb (R.locs n _ e) ?_;intro a' hg' vs m ho hr;have:a'=a:=R.uniq _ _ _ hg' hg;subst this;exact ⟨a',vs,m,rfl,ho,hr,.inr ⟨n,hg⟩⟩
theorem qah {vs:Array Hw}(ho:h.get? a=ER (qa8 vs n)):h.IsList a vs:=⟨_,ho,rfl,n,rfl⟩
noncomputable def qbo (l:List AV) (lo hi st:Option Int):List AV:=
  (E6 (Cc lo hi st l.length).1 (Cc lo hi st l.length).2.1 (Cc lo hi st l.length).2.2).filterMap λi=>l[i]?
theorem RVs.pickL {vs:List Hw}(r:RVs W g h l vs):∀is:List Nat,RVs W g h (is.filterMap λi=>l[i]?) (is.filterMap λi=>vs[i]?)
  | []=>rfl
  | i::is=>by
    rw[FA,FA];cases e:l[i]? with
    | none=>
      have:vs[i]?=Dt:=by rw[List.getElem?_eq_none_iff] at e ⊢;rw[r.length];exact e
      rw[this];exact RVs.pickL r is
    | some a=>
      refine qa4 (r.getA e) ?_;intro v hv ha;rw[hv];exact ⟨v,_,rfl,ha,RVs.pickL r is⟩
theorem RVs.pick {vs:Array Hw}(r:RVs W g h l vs.toList)(lo hi st:Option Int):RVs W g h (qbo l lo hi st) (slicePick vs lo hi st).toList:=by
  have hl:vs.size=l.length:=by rw[<- r.length,Az]
  unfold qbo slicePick;rw[hl];have:=r.pickL (E6 (Cc lo hi st l.length).1 (Cc lo hi st l.length).2.1 (Cc lo hi st l.length).2.2);simpa using this
section
theorem list_getitem_look:A6 (.type "list") "__getitem__"=pure (ER (.builtin "list.__getitem__")):=PySem.list_getitem_lookup
theorem Iaa {i:Expr}{a:AV}{x:Int}(he:Ev C k fr m σ e a z1)(hi:Ev C k fr m z1 i (.int x) z')(hL:Lv z' a l)(hx:∃j,Di x l.length=ER j/\l[j]?=ER v)(hz:l.length<=Ai)(hs:autoParam (∀o w,GU i Hr o w=operate [o,w] (getItem o w)) ap0._auto_1):Ev C k fr m σ (.Subscript e i p) v z':=λA env g s rm R F Q E hQ=>by
  refine PyProof.Rows.Subscript_ (he A env g s rm R F _ _ λva g1 s1a R1 e1a ra=>hi A env g1 s1a rm R1 (F.up e1a) _ _ λvi g2 s2 R2 e2a rx=>?_);obtain ⟨t,rfl⟩:=rx;refine qa1 (hL.at R2 (ra.up e2a)) ?_;intro b vs n eq_5_3 ho hr _;subst eq_5_3;refine qa4 (hx) ?_;intro j hj hv;refine qa4 (hr.getA hv) ?_;intro w hw rw';have hlen:vs.size=l.length:=by rw[<- hr.length,Az]
  have hw':vs[j]?=ER w:=by rw[<- BB];exact hw
  have hl:=qah ho;have hz':(l.length:Int)<=2 ^ 24:=by have:Ai=2 ^ 24:=rfl;lia
  refine GV hl.typeIs list_getitem_look ?_ (hs _ _);unfold Di at hj;by_cases hneg:x<0
  . simp only[hneg,if_true] at hj;split at hj
    . rename_i hc;simp only[AH,decide_eq_true_eq] at hc;cases hj
      refine wpAny_getItem_list_neg hl hneg (by rw[hlen];lia) (by lia) (x:=w) (by rw[hlen];exact hw') (hQ _ _ _ R2 (e1a.trans e2a) rw')
    . cases hj
  . simp only[hneg,if_false] at hj;split at hj
    . rename_i hc;simp only[AH,decide_eq_true_eq] at hc;cases hj
      refine wpAny_getItem_list hl (by simp_all) (by lia) hw' (hQ _ _ _ R2 (e1a.trans e2a) rw')
    . cases hj
theorem Iae {i:Expr}{x:Int}(he:Ev C k fr m σ e (.tup l) z1)(hi:Ev C k fr m z1 i (.int x) z')(hx:∃j,Di x l.length=ER j/\l[j]?=ER v)(hb:autoParam (-2 ^ 63<=x/\x<2 ^ 63) ap1._auto_1)(hs:autoParam (∀o w,GU i Hr o w=operate [o,w] (getItem o w)) ap0._auto_1):Ev C k fr m σ (.Subscript e i p) v z':=λA env g s rm R F Q E hQ=>by
  refine PyProof.Rows.Subscript_ (he A env g s rm R F _ _ λva g1 s1a R1 e1a ra=>hi A env g1 s1a rm R1 (F.up e1a) _ _ λvi g2 s2 R2 e2a rx=>?_);obtain ⟨t,rfl⟩:=rx;refine qa1 (ra.up e2a) ?_;intro b vs n eq_9_3 hg ho hr;subst eq_9_3;refine qa4 (hx) ?_;intro j hj hv;refine qa4 (hr.getA hv) ?_;intro w hw rw';have hlen:vs.size=l.length:=by rw[<- hr.length,Az]
  have hw':vs[j]?=ER w:=by rw[<- BB];exact hw
  refine GV ⟨_,ho,rfl⟩ PySem.F.slot_tuple_getitem.lookup ?_ (hs _ _);exact PySem.P.getItem_tuple ho hb.1 hb.2 (by rw[hlen];exact hj) hw' (hQ _ _ _ R2 (e1a.trans e2a) rw')
def EvO (C:Cx) (k:Nat) (fr:List HA) (m:List (Option AV)) (σ:List AObj) (e:Option Expr) (x:Option Int) (z':List AObj):Prop:=
  ∀(A:BJ) (env:HA) (g:Ht->Own) (s:Ab),Room k fr A->Rep C.W fr g σ s->Fra C env m g s.heap->∀(Q:Hw->Ab->Prop) (E:Hw->Ab->Prop),
    (∀v' g' s',Rep C.W fr g' z' s'->Evo C.W noX C.Y g s.heap g' s'.heap->IsPart v' x->Q v' s')->Hs (Hu C.W.prog C.W.w) A (valueOrNone (evalOpt e env)) Q E s
theorem EvO.none:EvO C k fr m σ Dt Dt σ:=λA env g s rm R F Q E hQ=>Ad (hQ _ g s R Evo.refl .none)
theorem Iau {x:Int}(h:Ev C k fr m σ e (.int x) z'):EvO C k fr m σ (ER e) (ER x) z':=λA env g s rm R F Q E hQ=>
  h A env g s rm R F Q E λv g' s' R' e' r=>by obtain ⟨t,rfl⟩:=r;exact hQ _ g' s' R' e' (.int x t)
theorem Ibl {lo hi st:Option Expr}{a:AV}{xl xh xs:Option Int}(he:Ev C k fr m σ e a z1)(hl:EvO C k fr m z1 lo xl z2)(hh:EvO C k fr m z2 hi xh z3)(ht:EvO C k fr m z3 st xs z')(hL:Lv z' a l)(h0:xs≠ER 0)(hz:l.length<=Ai){s:Ab}(rm:Room k fr A)(R:Rep C.W fr g σ s)(F:Fra C env m g s.heap)(hQ:∀g' s',Rep C.W fr g' z' s'->Evo C.W noX C.Y g s.heap g' s'.heap->∀vs,RVs C.W g' s'.heap (qbo l xl xh xs) vs->Q (.ref s'.heap.objs.size) { s' with heap:=s'.heap.push (qa8 vs.toArray 0) }):
    Hs (Hu C.W.prog C.W.w) A (eval (.Subscript e (.Slice lo hi st p) q) env) Q E s:=by
  refine PyProof.Rows.Subscript_ (he A env g s rm R F _ _ λva g1 s1a R1 e1a ra=>?_);rw[arm_eval_Slice];refine Aa (hl A env g1 s1a rm R1 (F.up e1a) _ _ λvl g2 s2 R2 e2a pl=>?_);refine Aa (AK (hh A env g2 s2 rm R2 ((F.up e1a).up e2a) _ _ λvh g3 s3 R3 e3a ph=>?_));refine Aa (AK (ht A env g3 s3 rm R3 (((F.up e1a).up e2a).up e3a) _ _ λvt g4 s4 R4 e4 pt=>?_));refine AC ?_ (R4.push { cls:=.type "slice",data:=.fields #[vl,vh,vt] } .other rfl (.inr rfl));intro R5 e5;refine Bx ?_ (by size_fits);refine qa1 (hL.at R5 ((((ra.up e2a).up e3a).up e4).up e5)) ?_;intro b vs n eq_14_3 ho hr _;subst eq_14_3;have hl:=qah ho;have hlen:vs.size=l.length:=by rw[<- hr.length,Az]
  have fin:=hQ _ _ R5 ((((e1a.trans e2a).trans e3a).trans e4).trans e5.no) _ (hr.pick xl xh xs);have hg:Hs (Hu C.W.prog C.W.w) A (getItem (.ref b) (.ref s4.heap.objs.size)) Q E { s4 with heap:=s4.heap.push { cls:=.type "slice",data:=.fields #[vl,vh,vt] } }:=by
    refine wpAny_getItem_list_slice hl (Heap.IsSliceOf.new ..) pl ph pt h0 ?_ (by rw[hlen];exact hz);simpa using fin
  cases st with
  | none=>exact GV (ops:=[.ref s4.heap.objs.size,.ref b]) hl.typeIs list_getitem_look hg rfl
  | some st=>exact GV (ops:=[.ref b,.ref s4.heap.objs.size]) hl.typeIs list_getitem_look hg rfl
theorem Iav {lo hi st:Option Expr}{a:AV}{xl xh xs:Option Int}(he:Ev C k fr m σ e a z1)(hl:EvO C k fr m z1 lo xl z2)(hh:EvO C k fr m z2 hi xh z3)(ht:EvO C k fr m z3 st xs z')(hL:Lv z' a l)(h0:xs≠ER 0)(hz:l.length<=Ai):Ev C k fr m σ (.Subscript e (.Slice lo hi st p) q) (.lst (qbo l xl xh xs)) z':=λA env g s rm R F Q E hQ=>by
  refine Ibl he hl hh ht hL h0 hz rm R F λg' s' R' e' vs r=>?_
  refine AC ?_ (R'.newFz (qa8 vs.toArray 0));intro R2 e2a;exact hQ _ _ _ R2 (e'.trans e2a.no) ⟨_,_,_,rfl,qa3,Al _ rfl,by simpa using r.up e2a⟩
theorem Id2 {lo hi st:Option Expr}{a:AV}{xl xh xs:Option Int}(he:Ev C k fr m σ e a z1)(hl:EvO C k fr m z1 lo xl z2)(hh:EvO C k fr m z2 hi xh z3)(ht:EvO C k fr m z3 st xs z')(hL:Lv z' a l)(h0:xs≠ER 0)(hp:plains (qbo l xl xh xs)=Hq)(hz:l.length<=Ai):Ev C k fr m σ (.Subscript e (.Slice lo hi st p) q) (.loc z'.length) (z'++[.lst (qbo l xl xh xs)]):=λA env g s rm R F Q E hQ=>by
  refine Ibl he hl hh ht hL h0 hz rm R F λg' s' R' e' vs r=>?_
  have e2a:Evo C.W noX C.Y g' s'.heap (qbw g' s'.heap.objs.size (.loc z'.length)) (s'.heap.push (qa8 vs.toArray 0)):=
    (R'.pushEvo (qa8 vs.toArray 0) (.loc z'.length))
  refine AC ?_ (R'.pushLoc (qa8 vs.toArray 0) (ao:=.lst (qbo l xl xh xs)) hp ⟨vs.toArray,0,Al _ rfl,by simpa using r.up e2a⟩);intro R2 e3a;exact hQ _ _ _ R2 (e'.trans e3a.no) ⟨_,rfl,qa3⟩
end
end
section
inductive AFl where
  | next | brk | cont | ret (v:AV)
noncomputable def RFl (W:Wd) (g:Ht->Own) (h:Heap):AFl->Flow->Prop
  | .next,f=>f=.next
  | .brk,f=>f=.brk
  | .cont,f=>f=.cont
  | .ret v,f=>∃v',f=.ret v'/\RV W g h v v'
def Ex (C:Cx) (k:Nat) (fr:List HA) (m:List (Option AV)) (σ:List AObj) (st:Stmt) (fl:AFl) (m':List (Option AV)) (z':List AObj):Prop:=
  ∀(A:BJ) (env:HA) (g:Ht->Own) (s:Ab),Room k fr A->Rep C.W fr g σ s->Fra C env m g s.heap->∀(Q:Flow->Ab->Prop) (E:Hw->Ab->Prop),
    (∀f' g' s',Rep C.W fr g' z' s'->Evo C.W (FX C.nm env) C.Y g s.heap g' s'.heap->Fra C env m' g' s'.heap->RFl C.W g' s'.heap fl f'->Q f' s')->Hs (Hu C.W.prog C.W.w) A (exec st env) Q E s
def Exs (C:Cx) (k:Nat) (fr:List HA) (m:List (Option AV)) (σ:List AObj) (sts:List Stmt) (fl:AFl) (m':List (Option AV)) (z':List AObj):Prop:=
  ∀(A:BJ) (env:HA) (g:Ht->Own) (s:Ab),Room k fr A->Rep C.W fr g σ s->Fra C env m g s.heap->∀(Q:Flow->Ab->Prop) (E:Hw->Ab->Prop),
    (∀f' g' s',Rep C.W fr g' z' s'->Evo C.W (FX C.nm env) C.Y g s.heap g' s'.heap->Fra C env m' g' s'.heap->RFl C.W g' s'.heap fl f'->Q f' s')->Hs (Hu C.W.prog C.W.w) A (execs sts env) Q E s
def As (C:Cx) (k:Nat) (fr:List HA) (m:List (Option AV)) (σ:List AObj) (t:Expr) (v:AV) (m':List (Option AV)) (z':List AObj):Prop:=
  ∀(A:BJ) (env:HA) (g:Ht->Own) (s:Ab) (v':Hw),Room k fr A->Rep C.W fr g σ s->Fra C env m g s.heap->RV C.W g s.heap v v'->∀(Q:Unit->Ab->Prop) (E:Hw->Ab->Prop),
    (∀g' s',Rep C.W fr g' z' s'->Evo C.W (FX C.nm env) C.Y g s.heap g' s'.heap->Fra C env m' g' s'.heap->Q () s')->Hs (Hu C.W.prog C.W.w) A (assign t env v') Q E s
section
theorem Evo.toX {X:Ht->Prop}(e:Evo W noX Y g h g' h'):Evo W X Y g h g' h':=
  ⟨λa o ho _ hq=>e.keep a o ho (λq=>q) hq,e.keepL,λa q _=>e.fz a q λq=>q,e.loc,e.aux,λa o ho q _=>e.oth a o ho q λq=>q,e.tabs⟩
theorem Evo.toY {X:Ht->Prop}(e:Evo W X noY g h g' h'):Evo W X Y g h g' h':=
  ⟨e.keep,λa o n ho hg hy=>e.keepL a o n ho hg λq=>q,e.fz,e.loc,e.aux,e.oth,e.tabs⟩
theorem Exs.nil:Exs C k fr m σ [] .next m σ:=λA env g s rm R F Q E hQ=>Fu (hQ _ g s R Evo.refl F rfl)
theorem Exs.cons {r:List Stmt}{fl:AFl}(h1:Ex C k fr m σ st .next m1 z1)(h2:Exs C k fr m1 z1 r fl m' z'):Exs C k fr m σ (st::r) fl m' z':=λA env g s rm R F Q E hQ=>by
  refine CA (h1 A env g s rm R F _ _ λf' g1 s1a R1 e1a F1 hf=>?_);obtain rfl:f'=.next:=hf;exact h2 A env g1 s1a rm R1 F1 Q E λf' g2 s2 R2 e2a F2 hf=>hQ f' g2 s2 R2 (e1a.trans e2a) F2 hf
theorem Exs.ret {r:List Stmt}(h1:Ex C k fr m σ st (.ret v) m' z'):Exs C k fr m σ (st::r) (.ret v) m' z':=λA env g s rm R F Q E hQ=>by
  refine CA (h1 A env g s rm R F _ _ λf' g1 s1a R1 e1a F1 hf=>?_);refine qa4 (hf) ?_;intro v' eq_0_1 hv;subst eq_0_1;exact hQ _ g1 s1a R1 e1a F1 ⟨v',rfl,hv⟩
theorem Exs.brk {r:List Stmt}(h1:Ex C k fr m σ st .brk m' z'):Exs C k fr m σ (st::r) .brk m' z':=λA env g s rm R F Q E hQ=>by
  refine CA (h1 A env g s rm R F _ _ λf' g1 s1a R1 e1a F1 hf=>?_);obtain rfl:f'=.brk:=hf;exact hQ _ g1 s1a R1 e1a F1 rfl
theorem qm6 {Γ:Ctx}{E:Hw->Pos->Ab->Prop}{s:Ab}{m:Hv->Option Hw}(hn:s.heap.Ns a m)(name:Hv)(v:Hw)(Q:Unit->Pos->Ab->Prop)(hQ:∀h',h'.Ns a (λx=>if x=name then ER v else m x)->AI a s.heap h'->(∀o,s.heap.get? a=ER o->∃o',h'.get? a=ER o'/\o'.cls=o.cls) ->
      Q () p { s with heap:=h',toks:=s.toks+1 }):Sem.wp M Γ (nsSet a name v) Q E p s:=by
  refine qa1 hn ?_;intro o es ep ho hd hk hm;have hany:es.any (·.refKey)=Hr:=by
    rw[FB];intro e he;refine qkm (hk e he) ?_;intro n t h;simp[Gs,h]
  have key:∃B hs key,∀Q,Sem.wp M Γ (nsSet a name v) Q E p s=(B/\Q () p { s with heap:=s.heap.update a (GW name hs key v),toks:=s.toks+1 }):=by
    exact ⟨_,_,_,λQ=>by
      simp only[nsSet,strHash,Sem.wp_bind',Sem.wp_cmd_ask,Sem.wp_pure',Sem.wp_cmd_mkText];rw[Sem.wp_loadPart_of M Γ E p { s with toks:=s.toks+1 } _ ho];simp only[hd,aRefKeyMayBeTheName_eq,FM,hany,D7,Bj,if_false,Sem.wp_cmd_updatePart];exact rfl⟩
  refine qn5 key ?_;intro B hs key hw;have this:=Sem.wp_nsSet M Γ E p s hn name v (λ_ _ s'=>s'.heap.Ns a (λx=>if x=name then ER v else m x)/\AI a s.heap s'.heap) λh' h1 h2=>⟨h1,h2⟩
  rw[hw] at this ⊢;refine ⟨this.1,hQ _ this.2.1 this.2.2 λo' q=>?_⟩;obtain rfl:=Sj (ho.symm.trans q);obtain ⟨c,d,dt,sl⟩:=o;obtain rfl:dt=.dict es ep:=hd;have hf:(GW name hs key v ⟨c,d,.dict es ep,sl⟩).cls=c/\(GW name hs key v ⟨c,d,.dict es ep,sl⟩).isFreed=Hr:=by
    simp only[FN,ED];cases es.findIdx? (·.key.isStr name) <;> exact ⟨rfl,rfl⟩
  exact ⟨_,Be (GW name hs key v) ho hf.2,hf.1⟩
theorem qd8 {s:Ab}{name:Hv}{m:Hv->Option Hw}{v:Hw}{Q:Unit->Ab->Prop}(hl:env.kindOf name=ER .local)(hn:s.heap.Ns env.locals m)(h:∀h',h'.Ns env.locals (λx=>if x=name then ER v else m x)->AI env.locals s.heap h'->(∀o,s.heap.get? env.locals=ER o->∃o',h'.get? env.locals=ER o'/\o'.cls=o.cls) ->
      Q () { s with heap:=h',toks:=s.toks+1 })(hp:autoParam ((env.scope.kind==.class||(env.scope.kind==.module&&env.locals != env.globals))=Hr) ap0._auto_1):Hs M A (FH env name v) Q E s:=by
  rw[storeName_local hl hp];exact λΓ p _=>qm6 hn name v _ h
theorem qc3 {m:List (Option α)}{a b:α}(h:(m.set i (ER a))[j]?=ER (ER b)):(j=i/\b=a)\/(j≠i/\m[j]?=ER (ER b)):=by
  by_cases hj:j=i
  . subst hj;rcases B7 j m.length with hl | hl
    . rw[BK hl] at h;exact .inl ⟨rfl,(Sj (Sj h)).symm⟩
    . rw[Dd (by rw[Bv];exact hl)] at h;cases h
  . rw[AX (B5 hj)] at h;exact .inr ⟨hj,h⟩
theorem qbn (hi:C.nm[i]?=ER (x,.local))(hp:plain av=Hq\/∀(i:Nat) (x:Hv),C.nm[i]?≠ER (x,.cell)){s:Ab}{v:Hw}(R:Rep C.W fr g σ s)(F:Fra C env m g s.heap)(r:RV C.W g s.heap av v){Q:Unit->Ab->Prop}(hQ:∀g' s',Rep C.W fr g' σ s'->Evo C.W (FX C.nm env) noY g s.heap g' s'.heap->Fra C env (m.set i (ER av)) g' s'.heap->Q () s'):Hs (Hu C.W.prog C.W.w) A (FH env x v) Q E s:=by
  refine qa4 (F.names i x _ hi) ?_;intro k' h3 h4;obtain rfl:k'=.local:=by cases k' <;> first | rfl | (exact absurd h4 (by decide))
  refine qa4 F.ns ?_;intro mh hn hm;refine qd8 h3 hn (λh' hn' hs hcc=>?_) (by simp[F.kind]);refine qap hn ?_;intro oL es ep hL hx hr;refine qap hn' ?_;intro oL' es' ep' hL' hx' hr';have hxo:XOk (λa=>a=env.locals) g s.heap:=λa ha=>by
    subst ha;exact ⟨.inl F.Lo,λo vs ho hd=>nomatch ((congrArg Obj.data (Sj (hL.symm.trans ho))).symm.trans hx).symm.trans hd⟩
  obtain ⟨R',e⟩:=R.turn (g':=g) (h':=h') (s.toks+1) (λa=>a=env.locals) hxo (λa ha=>ha ▸ F.Lz) (λ_ _=>rfl) (λa ha=>ha ▸ F.Lo)
    (λa o ho ha=>(hs.2 a ha).trans ho) (λa o es n ha ho hd=>by subst ha;refine qa4 (hcc o ho) ?_;intro o' h5 h6;exact ⟨oL',es',ep',hL',hx',(Sj (hL'.symm.trans h5)) ▸ h6⟩)
  have up:∀av v,RV C.W g s.heap av v->RV C.W g h' av v:=λav v r=>r.mono e hxo av (.inl λa ha=>ha ▸ F.Lo) v
  refine hQ g _ R' (e.weak (X':=FX C.nm env) (Y':=noY) R.low (λa o _ ha=>.inl ha) (λn q=>q.elim)) ⟨F.kind,F.names,F.nd,F.glob,F.blt,F.code,F.Lo,F.Lz,⟨_,hn',λj y av' h1 h2=>?_⟩,λj y kd h1 h2=>?_,?_,F.inj⟩
  . rcases qc3 h2 with ⟨rfl,rfl⟩ | ⟨hj,h2⟩
    . obtain rfl:=(GX (Sj (hi.symm.trans h1))).1;exact ⟨v,if_pos rfl,up _ _ r⟩
    . refine qa4 (hm j y av' h1 h2) ?_;intro w h5 h6;exact ⟨w,(if_neg λq=>hj (by subst q;exact F.nd j i y _ _ h1 hi)).trans h5,up _ _ h6⟩
  . refine qan (F.cell j y kd h1 h2) ?_;intro c ov h5 h6 h7 h8 h9;have hc:c≠env.locals:=λq=>by subst q;rw[hL] at h7;obtain rfl:=Sj h7;exact nomatch hx
    refine ⟨c,ov,h5,h6,(hs.2 c hc).trans h7,h8,λav' q=>?_⟩;rcases qc3 q with ⟨rfl,_⟩ | ⟨_,q⟩
    . obtain rfl:=(GX (Sj (hi.symm.trans h1))).2;exact nomatch h2
    . exact (h9 av' q).imp λw q=>⟨q.1,up _ _ q.2⟩
  . rcases F.pl with q | q
    . exact .inl q
    . refine hp.symm.imp_right λhp j av' h=>?_
      rcases qc3 h with ⟨_,rfl⟩ | ⟨_,h⟩
      . exact hp
      . exact q j av' h
theorem qep (hi:C.nm[i]?=ER (x,.cell))(hp:plain av=Hq){s:Ab}{v:Hw}(R:Rep C.W fr g σ s)(F:Fra C env m g s.heap)(r:RV C.W g s.heap av v){Q:Unit->Ab->Prop}(hQ:∀g' s',Rep C.W fr g' σ s'->Evo C.W (FX C.nm env) noY g s.heap g' s'.heap->Fra C env (m.set i (ER av)) g' s'.heap->Q () s'):Hs (Hu C.W.prog C.W.w) A (FH env x v) Q E s:=by
  refine qa4 (F.names i x _ hi) ?_;intro k' h3 h4;refine qan (F.cell i x .cell hi rfl) ?_;intro c ov h5 h6 h7 h8 h9;have hplm:∀(i:Nat) (av:AV),m[i]?=ER (ER av)->plain av=Hq:=F.pl.resolve_left λq=>q i x hi
  have hcell:Hf env x=pure c:=by unfold Hf;rw[h5]
  have hxo:XOk (λa=>a=c) g s.heap:=λa ha=>by
    subst ha;exact ⟨h8.imp id λq=>⟨q,_,h7⟩,λo vs ho hd=>nomatch (congrArg Obj.data (Sj (h7.symm.trans ho))).trans hd⟩
  have hself:(s.heap.update c λo=>{ o with data:=.cell (ER v) }).get? c=ER (qat (ER v)):=by
    first | exact Be _ h7 rfl | exact Be (λo=>{ o with data:=.cell (ER v) }) h7 rfl
  have hs:AI c s.heap (s.heap.update c λo=>{ o with data:=.cell (ER v) }):=Bb ..;obtain ⟨R',e⟩:=R.turn (g':=qbw g c .other) (h':=s.heap.update c λo=>{ o with data:=.cell (ER v) }) s.toks (λa=>a=c) hxo (λa ha=>ha ▸ h6) (λa ha=>qa5 ha) (λa ha=>ha ▸ qa3)
    (λa o ho ha=>(hs.2 a ha).trans ho) (λa o es n ha ho hd=>by subst ha;exact nomatch (congrArg Obj.data (Sj (h7.symm.trans ho))).trans hd)
  have up:∀av u,plain av=Hq->RV C.W g s.heap av u->RV C.W (qbw g c .other) (s.heap.update c λo=>{ o with data:=.cell (ER v) }) av u:=λav u hp r=>r.mono e hxo av (.inr hp) u
  have fin:Hs (Hu C.W.prog C.W.w) A (cellSet c (ER v)) Q E s:=by
    unfold cellSet;refine Aa (EC h7 ?_);refine wpAny_update h7 (hQ _ _ R' (e.weak R.low (λa o _ ha=>.inr ⟨i,x,hi,by rw[ha];exact h5⟩) (λn q=>q.elim)) ?_);refine qa4 F.ns ?_;intro mh hn hm;refine qap hn ?_;intro oL es ep hL hx hr;have hcL:env.locals≠c:=λq=>by rw[q,h7] at hL;obtain rfl:=Sj hL;exact nomatch hx
    refine ⟨F.kind,F.names,F.nd,F.glob,F.blt,F.code,by rw[qa5 hcL];exact F.Lo,F.Lz,⟨mh,⟨oL,es,ep,(hs.2 _ hcL).trans hL,hx,hr⟩,λj y av' h1 h2=>?_⟩,λj y kd h1 h2=>?_,.inr λj av' h=>?_,F.inj⟩
    . rcases qc3 h2 with ⟨rfl,_⟩ | ⟨_,h2⟩
      . exact nomatch (GX (Sj (hi.symm.trans h1))).2
      . exact (hm j y av' h1 h2).imp λw q=>⟨q.1,up _ _ (hplm j av' h2) q.2⟩
    . by_cases hj:j=i
      . subst hj;obtain ⟨rfl,rfl⟩:=GX (Sj (hi.symm.trans h1));refine ⟨c,ER v,h5,h6,hself,.inl qa3,λav' q=>?_⟩;rcases qc3 q with ⟨_,rfl⟩ | ⟨q,_⟩
        . exact ⟨v,rfl,up _ _ hp r⟩
        . exact absurd rfl q
      . refine qan (F.cell j y kd h1 h2) ?_;intro c' ov' h10 h11 h12 h13 h14;have hcc:c'≠c:=λq=>by subst q;exact hj (F.inj i j x y kd c' hi h1 h2 h5 h10).symm
        refine ⟨c',ov',h10,h11,(hs.2 _ hcc).trans h12,by rw[qa5 hcc];exact h13,λav' q=>?_⟩;have q:=(qc3 q).resolve_left λq=>hj q.1
        exact (h14 av' q.2).imp λw z=>⟨z.1,up _ _ (hplm j av' q.2) z.2⟩
    . rcases qc3 h with ⟨_,rfl⟩ | ⟨_,h⟩
      . exact hp
      . exact hplm j av' h
  unfold FH;cases k' with
  | «local»=>cases h4
  | globalExplicit=>cases h4
  | globalImplicit=>cases h4
  | cell=>simp[h3,F.kind,hcell];exact fin
  | free=>simp[h3,F.kind,hcell];exact fin
theorem Ibs (hi:C.nm[i]?=ER (x,.local))(hp:plain av=Hq):As C k fr m σ (.Name x p) av (m.set i (ER av)) σ:=λA env g s v rm R F r Q E hQ=>by
  show Hs _ A (Dx p >>= λ_=>Fj env x v) Q E s;exact Aa (AS (CK (qbn hi (.inl hp) R F r λg1 s1a R1 e1a F1=>hQ g1 s1a R1 e1a.toY F1)))
theorem Idb (hi:C.nm[i]?=ER (x,.cell))(hp:plain av=Hq):As C k fr m σ (.Name x p) av (m.set i (ER av)) σ:=λA env g s v rm R F r Q E hQ=>by
  show Hs _ A (Dx p >>= λ_=>Fj env x v) Q E s;exact Aa (AS (CK (qep hi hp R F r λg1 s1a R1 e1a F1=>hQ g1 s1a R1 e1a.toY F1)))
theorem Ia4 (he:Ev C k fr m σ e v z1)(ht:As C k fr m z1 t v m' z')(hsw:autoParam (∀env,Gj [t] e p.line env=pure Hr) ap0._auto_1)(hst:autoParam (∀env,DR [t] e env=pure Dt) ap0._auto_1)(hta:autoParam (∀env,(C4 [t] env).map (·.2)=[PySem.assign t env]) ap0._auto_1):
    Ex C k fr m σ (.Assign [t] e p) .next m' z':=λA env g s rm R F Q E hQ=>by
  refine CW (he A env g s rm R F _ _ λv' g1 s1a R1 e1a rv=>?_) (hsw env) (hst env);show Hs _ A (G7 v' ((C4 [t] env).map (·.2))) _ _ _;rw[hta];exact ht A env g1 s1a v' rm R1 (F.up e1a) rv _ _ λg2 s2 R2 e2a F2=>hQ _ g2 s2 R2 (e1a.toX.trans e2a) F2 rfl
theorem Iai (he:Ev C k fr m σ e v z'):Ex C k fr m σ (.Return (ER e) p) (.ret v) m z':=λA env g s rm R F Q E hQ=>
  wpAny_Return_some (he A env g s rm R F _ _ λv' g1 s1a R1 e1a rv=>hQ _ g1 s1a R1 e1a.toX (F.up e1a) ⟨v',rfl,rv⟩)
theorem Ia6 {a b:List Stmt}{c:Bool}{fl:AFl}(ht:Tr C k fr m σ t c z1)(ha:c=Hq->Exs C k fr m z1 a fl m' z')(hb:c=Hr->Exs C k fr m z1 b fl m' z'):Ex C k fr m σ (.If t a b p) fl m' z':=λA env g s rm R F Q E hQ=>by
  refine wpAny_If (ht A env g s rm R F _ _ λg1 s1a R1 e1a=>?_);cases c with
  | true=>exact ha rfl A env g1 s1a rm R1 (F.up e1a) Q E λf' g2 s2 R2 e2a F2 hf=>hQ f' g2 s2 R2 (e1a.toX.trans e2a) F2 hf
  | false=>exact hb rfl A env g1 s1a rm R1 (F.up e1a) Q E λf' g2 s2 R2 e2a F2 hf=>hQ f' g2 s2 R2 (e1a.toX.trans e2a) F2 hf
theorem Idu:Ex C k fr m σ (.Break p) .brk m σ:=λA env g s rm R F Q E hQ=>
  show Hs _ A (Dx p >>= λ_=>pure .brk) Q E s from Aa (AS (Ad (hQ _ g s R Evo.refl F rfl)))
theorem Ida {np:Pos}{op:Operator}{a b:AV}(hi:C.nm[i]?=ER (x,.local))(ha:m[i]?=ER (ER a))(he:Ev C k fr m σ e b z1)(ho:Op2 C.W C.Y k fr z1 (inplaceOp op) a b v z')(hp:plain v=Hq):
    Ex C k fr m σ (.AugAssign (.Name x np) op e p) .next (m.set i (ER v)) z':=λA env g s rm R F Q E hQ=>by
  refine qa4 (F.ns) ?_;intro mh hn hm;refine qa4 (hm i x a hi ha) ?_;intro w h1 h2;refine qa4 (F.names i x _ hi) ?_;intro k' h3 h4;have:k'=.local:=by cases k' <;> first | rfl | (exact absurd h4 (by decide))
  subst this;refine wpAny_AugAssign_Name (Fh F.kind h3 hn h1 (he A env g s rm R F _ _ λvb g1 s1a R1 e1a rb=>ho A g1 s1a w vb rm R1 (h2.up e1a) rb _ _ λv' g2 s2 R2 e2a rv=>?_));exact qbn hi (.inl hp) R2 ((F.up e1a).up e2a) rv λg3 s3 R3 e3a F3=>hQ _ g3 s3 R3 ((e1a.trans e2a).toX.trans e3a.toY) F3 rfl
end
end
variable {fl:AFl}
section
section
inductive Binds (nm:List (Hv×AA)):List Hv->List AV->List (Option AV)->List (Option AV)->Prop
  | nil {m:List (Option AV)}:Binds nm [] [] m m
  | cons {x:Hv} {xs:List Hv} {v:AV} {vs:List AV} {i:Nat} {kd:AA} {m m'} (hi:nm[i]?=ER (x,kd)) (hk:kd=.local\/kd=.cell) (hp:plain v=Hq\/∀(i:Nat) (x:Hv),nm[i]?≠ER (x,.cell))
      (r:Binds nm xs vs (m.set i (ER v)) m'):Binds nm (x::xs) (v::vs) m m'
theorem Binds.plains (B:Binds nm xs vs m m'):(∀(i:Nat) (x:Hv),nm[i]?≠ER (x,.cell))\/Mine.plains vs=Hq:=by
  induction B with
  | nil=>exact .inr rfl
  | cons hi hk hp r ih=>
    rcases ih with q | q
    . exact .inl q
    . rcases hp with p | p
      . exact .inr (by show (plain _&&Mine.plains _)=Hq;rw[p,q];rfl)
      . exact .inl p
theorem qq7 (F:Fra C env m g h)(hn:∀(i:Nat) (x:Hv),C.nm[i]?≠ER (x,.cell)):∀a,FX C.nm env a->g a=.other:=λa ha=>by
  rcases ha with rfl | ⟨i,x,hi,_⟩
  . exact F.Lo
  . exact absurd hi (hn i x)
theorem qga:∀{xs:List Hv} {vs:List AV} {m m':List (Option AV)} {g:Ht->Own} {s:Ab} {us:List Hw} (B:Binds C.nm xs vs m m')
    (R:Rep C.W fr g σ s) (F:Fra C env m g s.heap) (r:RVs C.W g s.heap vs us) {Q:PUnit->Ab->Prop}
    (hQ:∀g' s',Rep C.W fr g' σ s'->Evo C.W (FX C.nm env) noY g s.heap g' s'.heap->Fra C env m' g' s'.heap->Q ⟨⟩ s') (f:Hv×Hw->PUnit->Sem (ForInStep PUnit))
    (hf:∀x u,f x u=(do FH env x.1 x.2;pure (.yield ⟨⟩))),Hs (Hu C.W.prog C.W.w) A (forIn (xs.zip us) ⟨⟩ f) Q E s:=by
  intro xs;induction xs with
  | nil=>
    intro vs m m' g s us B R F r Q hQ f hf;cases B
    rw[List.zip_nil_left,C5];exact Ad (hQ g s R Evo.refl F)
  | cons x xs ih=>
    intro vs m m' g s us B R F r Q hQ f hf;cases B with
    | cons hi hk hp B=>
      refine qa2 (r) ?_;intro u us' eq_0_2 r1 r2;subst eq_0_2;rw[Bl,Cg,hf];have go:∀g' s',Rep C.W fr g' σ s'->Evo C.W (FX C.nm env) noY g s.heap g' s'.heap->Fra C env _ g' s'.heap->_:=λg' s' R' e' F'=>
        ih B R' F' (r2.mono e' F.xok _ (B.plains.imp (λq=>qq7 F q) id) _) (λg'' s'' R'' e'' F''=>hQ g'' s'' R'' (e'.trans e'') F'') f hf
      rcases hk with rfl | rfl
      . exact Aa (Aa (qbn hi hp R F r1 λg' s' R' e' F'=>Ad (go g' s' R' e' F')))
      . exact Aa (Aa (qep hi (hp.resolve_right λq=>q _ _ hi) R F r1 λg' s' R' e' F'=>Ad (go g' s' R' e' F')))
theorem qob:∀(names:List (Hv×AA)) (cl:List (Hv×Ht)) (g:Ht->Own) (s:Ab) (f:Hv×AA->List (Hv×Ht)->Sem (ForInStep (List (Hv×Ht)))) (Q:List (Hv×Ht)->Ab->Prop),
    (∀x c,f x c=(if x.2==.cell then do let a <- alloc { cls:=.type "cell",data:=.cell Dt };pure (.yield ((x.1,a)::c)) else pure (.yield c))) ->
    (∀(i j:Nat) (x:Hv) (k k':AA),names[i]?=ER (x,k)->names[j]?=ER (x,k')->i=j)->Rep W fr g σ s ->
    (∀cl' s',Rep W fr g σ s'->Evo W noX noY g s.heap g s'.heap->(∀a o,s.heap.get? a=ER o->s'.heap.get? a=ER o) ->
      (∀x,(∀(i:Nat),names[i]?≠ER (x,.cell))->cl'.lookup x=cl.lookup x) ->
      (∀(i:Nat) (x:Hv),names[i]?=ER (x,.cell)->∃c,cl'.lookup x=ER c/\s.heap.get? c=Dt/\s'.heap.get? c=ER (qat Dt)) ->
      (∀(i j:Nat) (x y:Hv) (c:Ht),names[i]?=ER (x,.cell)->names[j]?=ER (y,.cell)->cl'.lookup x=ER c->cl'.lookup y=ER c->i=j)->Q cl' s') ->
    Hs (Hu W.prog W.w) A (forIn names cl f) Q E s:=by
  intro names;induction names with
  | nil=>
    intro cl g s f Q hf hd R hQ;rw[C5];exact Ad (hQ cl s R Evo.refl (λ_ _ h=>h) (λ_ _=>rfl) (λi x h=>by simp at h) (λi j x y c h=>by simp at h))
  | cons p names ih=>
    intro cl g s f Q hf hd R hQ;obtain ⟨x,kd⟩:=p;have hd':∀(i j:Nat) (x:Hv) (k k':AA),names[i]?=ER (x,k)->names[j]?=ER (x,k')->i=j:=λi j x k k' h1 h2=>by
      have:=hd (i+1) (j+1) x k k' (by simpa using h1) (by simpa using h2);lia
    have hx:∀(j:Nat) (k':AA),names[j]?≠ER (x,k'):=λj k' h=>by
      have:=hd 0 (j+1) x kd k' rfl (by simpa using h);lia
    rw[Cg,hf];by_cases hk:kd=.cell
    . subst hk;simp only[beq_self_eq_true,if_true];refine AC ?_ (R.push (qat Dt) .other rfl (.inr rfl));intro R1 e1a;have hgo:qbw g s.heap.objs.size .other=g:=by
        funext a
        by_cases ha:a=s.heap.objs.size
        . subst ha;rw[qa3,R.top]
        . exact qa5 ha
      rw[hgo] at R1 e1a;refine Aa (Aa (GY (Ad (ih _ g _ f Q hf hd' R1 λcl' s' R' e' hk' hl hn hj=>?_))));have up:∀a o,s.heap.get? a=ER o->s'.heap.get? a=ER o:=λa o ho=>hk' a o (Am _ ho)
      have hxl:cl'.lookup x=ER s.heap.objs.size:=by rw[hl x (λi=>hx i _)];simp
      refine hQ cl' s' R' (e1a.trans e') up (λy hy=>?_) (λi y hy=>?_) (λi j y z c hy hz h1 h2=>?_)
      . rw[hl y λi h=>hy (i+1) (by simpa using h)];have hne:(y==x)=Hr:=by
          have:y≠x:=λq=>by subst q;exact hy 0 rfl
          simpa using this
        rw[AZ,hne]
      . cases i with
        | zero=>
          simp at hy;subst hy;exact ⟨_,hxl,qag _,hk' _ _ (Al _ rfl)⟩
        | succ i=>
          refine qaj (hn i y (by simpa using hy)) ?_;intro c h1 h2 h3;refine ⟨c,h1,?_,h3⟩;cases q:s.heap.get? c with
          | none=>rfl
          | some o=>have:=Am (qat Dt) q;rw[h2] at this;cases this
      . cases i with
        | zero=>
          cases j with
          | zero=>rfl
          | succ j=>
            exfalso
            simp at hy;subst hy;rw[hxl] at h1;obtain rfl:=Sj h1;refine qaj (hn j z (by simpa using hz)) ?_;intro c h4 h5 h6;rw[h2] at h4;obtain rfl:=Sj h4;rw[Al _ rfl] at h5;cases h5
        | succ i=>
          cases j with
          | zero=>
            exfalso
            simp at hz;subst hz;rw[hxl] at h2;obtain rfl:=Sj h2;refine qaj (hn i y (by simpa using hy)) ?_;intro c h4 h5 h6;rw[h1] at h4;obtain rfl:=Sj h4;rw[Al _ rfl] at h5;cases h5
          | succ j=>
            have:=hj i j y z c (by simpa using hy) (by simpa using hz) h1 h2;lia
    . have hk':(kd==AA.cell)=Hr:=by simpa using hk
      simp only[hk',Bj,if_false];refine Aa (Ad (ih _ g _ f Q hf hd' R λcl' s' R' e' up hl hn hj=>hQ cl' s' R' e' up (λy hy=>hl y λi h=>hy (i+1) (by simpa using h)) (λi y hy=>?_) (λi j y z c hy hz h1 h2=>?_)))
      . cases i with
        | zero=>simp at hy;exact absurd hy.2 hk
        | succ i=>exact hn i y (by simpa using hy)
      . cases i with
        | zero=>simp at hy;exact absurd hy.2 hk
        | succ i=>
          cases j with
          | zero=>simp at hz;exact absurd hz.2 hk
          | succ j=>have:=hj i j y z c (by simpa using hy) (by simpa using hz) h1 h2;lia
theorem Rep.cons {s:Ab}(R:Rep C.W fr g σ s)(F:Fra C env m g s.heap)(hf:env.frame=ER env.locals)(hcl:∃o,s.heap.get? env.locals=ER o/\o.cls=.type "frame"):Rep C.W (env::fr) g σ s:=
  { R with frs:=λe he=>(by
      rcases Aw.mp he with rfl | he
      . refine qa4 (F.ns) ?_;intro mh ne_6_1 _;refine qap ne_6_1 ?_;intro oL es ep hL hLd _;refine qa4 (hcl) ?_;intro o ho hc;rw[hL] at ho;obtain rfl:=Sj ho;exact ⟨_,oL,es,ep,hf,hL,hLd,F.Lo,hc,F.Lz,by rw[F.kind];exact nofun⟩
      . exact R.frs e he) }
def qve (C:Cx) (cl:List (Hv×Ht)) (m:List (Option AV)) (g:Ht->Own) (h:Heap):Prop:=
  ∀(i:Nat) (x:Hv) (k:AA),C.nm[i]?=ER (x,k)->(k=.free->∃c ov,cl.lookup x=ER c/\C.W.s1.heap.get? c=Dt/\h.get? c=ER (qat ov)/\(g c=.other\/g c=.fz) /\
    ∀av,m[i]?=ER (ER av)->∃v,ov=ER v/\RV C.W g h av v)/\(k≠.free->∀av,m[i]?≠ER (ER av))
theorem qct {closure:List (Hv×Ht)}{us:List Hw}{qual:Hv}{func:Option Ht}{code:Hw}{around:Option HA}{m0:List (Option AV)}{s:Ab}{Q:HA->Ab->Prop}(hnm:C.nm=scope.names)(hnd:∀(i j:Nat) (x:Hv) (k k':AA),C.nm[i]?=ER (x,k)->C.nm[j]?=ER (x,k')->i=j)(hk:scope.kind=.function)(hlk:∀(i:Nat) (x:Hv) (k:AA),C.nm[i]?=ER (x,k)->scope.names.lookup x=ER k)(hcd:(match around with | some o=>o.code | none=>code)=C.cd)(hbl:∀o,around=ER o->o.builtins=Bt)(R:Rep C.W fr g σ s)(hfree:qve C closure m0 g s.heap)(hpl:(∀(i:Nat) (x:Hv),C.nm[i]?≠ER (x,.cell))\/∀(i:Nat) (av:AV),m0[i]?=ER (ER av)->plain av=Hq)(B:Binds C.nm xs vs m0 m1)(hr:RVs C.W g s.heap vs us)(hml:m0.length=C.nm.length)(hQ:∀env g' s',Rep C.W fr g' σ s'->Evo C.W noX noY g s.heap g' s'.heap->Fra C env m1 g' s'.heap->env.scope=scope->s.heap.get? env.locals=Dt->(∀x,(∀(i:Nat),C.nm[i]?≠ER (x,.cell))->env.cells.lookup x=closure.lookup x) ->
      (∀(i:Nat) (x:Hv) (c:Ht),C.nm[i]?=ER (x,.cell)->env.cells.lookup x=ER c->s.heap.get? c=Dt)->(around=Dt->env.frame=ER env.locals/\env.func=func)->(∀o,around=ER o->env.frame=o.frame)->(around=Dt->Rep C.W (env::fr) g' σ s')->Q env s'):
    Hs (Hu C.W.prog C.W.w) A (GZ scope Br closure (xs.zip us) qual func code around Bt) Q E s:=by
  have key:∀(cls:String) (mk:Ht->List (Hv×Ht)->HA),(∀L cl,(mk L cl).scope=scope/\(mk L cl).locals=L/\(mk L cl).globals=Br/\(mk L cl).builtins=Bt/\(mk L cl).cells=cl/\(mk L cl).code=C.cd /\
        (around=Dt->(mk L cl).frame=ER L/\(mk L cl).func=func)/\∀o,around=ER o->(mk L cl).frame=o.frame)->(around=Dt->cls="frame") ->
      Hs (Hu C.W.prog C.W.w) A (do
        let locals <- alloc { cls:=.type cls,data:=.dict #[] }
        let cells <- forIn scope.names closure λx c=>(if x.2==.cell then do let a <- alloc { cls:=.type "cell",data:=.cell Dt };pure (.yield ((x.1,a)::c)) else pure (.yield c):Sem (ForInStep (List (Hv×Ht))))
        let _ <- forIn (xs.zip us) Ck λx u=>(do FH (mk locals cells) x.1 x.2;pure (.yield Ck):Sem (ForInStep PUnit))
        pure (mk locals cells)) Q E s:=by
    intro cls mk hmk hcls;have htop:=R.top;obtain ⟨R1,e1a⟩:=R.push { cls:=.type cls,data:=.dict #[] } .other rfl (.inr rfl);have hgo:qbw g s.heap.objs.size .other=g:=by
      funext a
      by_cases ha:a=s.heap.objs.size
      . subst ha;rw[qa3,htop]
      . exact qa5 ha
    rw[hgo] at R1 e1a;refine Aa (GY (Aa ?_));refine qob scope.names closure g _ _ _ (λ_ _=>rfl) (λi j x k k' h1 h2=>hnd i j x k k' (by rw[hnm];exact h1) (by rw[hnm];exact h2)) R1 λcl' s2 R2 e2a up hl hn hj=>?_
    refine qn7 (hmk s.heap.objs.size cl') ?_;intro q1 q2 q3 q4 q5 q6 q7 q8;have hL:s2.heap.get? s.heap.objs.size=ER { cls:=.type cls,data:=.dict #[] }:=up _ _ (Al _ rfl);have e12:=e1a.trans e2a;have hkeep:∀a o,s.heap.get? a=ER o->s2.heap.get? a=ER o:=λa o ho=>up a o (Am _ ho)
    have hs1:∀a,s.heap.get? a=Dt->C.W.s1.heap.get? a=Dt:=λa ha=>by
      cases q:C.W.s1.heap.get? a with
      | none=>rfl
      | some o=>
        by_cases ht:C.W.tab a
        . refine qa4 (R.tabs a ht) ?_;intro more h2 _;rw[ha] at h2;cases h2
        . have:=R.base a o q ht;rw[ha] at this;cases this
    have hg0:∀a,s.heap.get? a=Dt->g a=.other:=λa ha=>Df λq=>by
      obtain ⟨o,ho⟩:=R.low a q;rw[ha] at ho;cases ho
    have hcl:∀(i:Nat) (x:Hv),C.nm[i]?=ER (x,.cell)->∃c,cl'.lookup x=ER c/\s.heap.get? c=Dt/\s2.heap.get? c=ER (qat Dt):=λi x hi=>by
      refine qaj (hn i x (by rw[<- hnm];exact hi)) ?_;intro c h1 h2 h3;refine ⟨c,h1,?_,h3⟩;cases q:s.heap.get? c with
      | none=>rfl
      | some o=>have:=Am ({ cls:=.type cls,data:=.dict #[] }:Obj) q;rw[h2] at this;cases this
    have hnc:∀(i:Nat) (x:Hv),C.nm[i]?=ER (x,.free)->cl'.lookup x=closure.lookup x:=λi x hi=>hl x λj q=>by
      have:=hnd i j x _ _ hi (by rw[hnm];exact q);subst this;rw[hnm] at hi;rw[hi] at q;cases q
    have F2:Fra C (mk s.heap.objs.size cl') m0 g s2.heap:=by
      refine ⟨by rw[q1];exact hk,λi x kd hi=>⟨kd,by unfold Env.kindOf;rw[q1];exact hlk i x kd hi,rfl⟩,hnd,q3,q4,q6,by rw[q2];exact htop,by rw[q2];exact hs1 _ (qag _),⟨λ_=>Dt,by
          rw[q2];exact ⟨_,#[],0,hL,rfl,λ_ he=>by simp at he,λ_=>rfl⟩,λi x av h1 h2=>absurd h2 ((hfree i x _ h1).2 nofun av)⟩,λi x kd h1 h2=>?_,hpl,λi j x y kd c h1 h2 h3 h4 h5=>?_⟩
      . rw[q5];cases kd with
        | «local»=>cases h2
        | globalExplicit=>cases h2
        | globalImplicit=>cases h2
        | cell=>
          refine qaj (hcl i x h1) ?_;intro c h3 h4 h5;exact ⟨c,Dt,h3,hs1 c h4,h5,.inl (hg0 c h4),λav q=>absurd q ((hfree i x _ h1).2 nofun av)⟩
        | free=>
          refine qan ((hfree i x _ h1).1 rfl) ?_;intro c ov h3 h4 h5 h6 h7;refine ⟨c,ov,by rw[hnc i x h1];exact h3,h4,hkeep _ _ h5,h6,λav q=>?_⟩;refine qa4 (h7 av q) ?_;intro v h8 h9;exact ⟨v,h8,h9.up e12⟩
      . rw[q5] at h4 h5;cases kd with
        | «local»=>cases h3
        | globalExplicit=>cases h3
        | globalImplicit=>cases h3
        | cell=>exact hj i j x y c (by rw[<- hnm];exact h1) (by rw[<- hnm];exact h2) h4 h5
        | free=>
          exfalso
          refine qaj (hcl i x h1) ?_;intro c1 h6 h7 h8;refine qaz ((hfree j y _ h2).1 rfl) ?_;intro c2 ov h9 h10 h11 _;rw[hnc j y h2,h9] at h5;obtain rfl:=Sj h5;rw[h4] at h6;obtain rfl:=Sj h6;rw[h7] at h11;cases h11
    have fin:∀g3 s3,Rep C.W fr g3 σ s3->(around=Dt->Rep C.W (mk s.heap.objs.size cl'::fr) g3 σ s3)->Evo C.W (FX C.nm (mk s.heap.objs.size cl')) noY g s2.heap g3 s3.heap->Fra C (mk s.heap.objs.size cl') m1 g3 s3.heap->Q (mk s.heap.objs.size cl') s3:=λg3 s3 R3 hRc e3a F3=>by
      have hfresh:∀a o,s.heap.get? a=ER o->¬FX C.nm (mk s.heap.objs.size cl') a:=λa o ho ha=>by
        rcases ha with rfl | ⟨i,x,hi,hc⟩
        . rw[q2] at ho;rw[qag] at ho;cases ho
        . rw[q5] at hc;refine qaj (hcl i x hi) ?_;intro c h1 h2 h3;rw[hc] at h1;obtain rfl:=Sj h1;rw[h2] at ho;cases ho
      have e13:Evo C.W noX noY g s.heap g3 s3.heap:=(e12.toX.trans e3a).weak R.low (λa o ho ha=>hfresh a o ho ha) (λ_ q=>q);exact hQ _ g3 s3 R3 e13 F3 q1 (by rw[q2];exact qag _) (λx hx=>by rw[q5];exact hl x λi h=>hx i (by rw[hnm];exact h)) (λi x c hi hc=>by
        rw[q5] at hc;refine qaj (hcl i x hi) ?_;intro c' h1 h2 h3;rw[hc] at h1;obtain rfl:=Sj h1;exact h2) (λh=>by rw[q2];exact q7 h) q8 hRc
    by_cases ha:around=Dt
    . have R2':=R2.cons F2 ((q7 ha).1.trans (by rw[q2])) ⟨_,by rw[q2];exact hL,by rw[hcls ha]⟩;exact Aa (qga B R2' F2 (hr.up e12) (λg3 s3 R3 e3a F3=>Ad (fin g3 s3 (R3.fewer λe he=>Ak _ he) (λ_=>R3) e3a F3)) _ λ_ _=>rfl)
    . exact Aa (qga B R2 F2 (hr.up e12) (λg3 s3 R3 e3a F3=>Ad (fin g3 s3 R3 (λh=>absurd h ha) e3a F3)) _ λ_ _=>rfl)
  unfold GZ;cases around with
  | none=>
    have:=key "frame" (λL cl=>{ scope,locals:=L,globals:=Br,cells:=cl,qual,func,code,frame:=ER L,builtins:=Bt }) (λL cl=>⟨rfl,rfl,rfl,rfl,rfl,hcd,λ_=>⟨rfl,rfl⟩,(λo h=>by cases h)⟩) λ_=>rfl
    exact this
  | some o=>
    have:=key "dict" (λL cl=>{ scope,locals:=L,globals:=Br,cells:=cl,qual,func,code:=o.code,frame:=o.frame,builtins:=o.builtins }) (λL cl=>⟨rfl,rfl,rfl,hbl o rfl,rfl,hcd,(λh=>by cases h),(λo' h=>by obtain rfl:=Sj h;rfl)⟩) λh=>by cases h
    exact this
end
end
section
structure qqx (C:Cx) (a:Ht) (fd:BV) (body:List Stmt):Prop where
  get:∃o,C.W.s1.heap.get? a=ER o/\o.data=.func fd
  nt:¬C.W.tab a
  co:fd.scope.isCoroutine=Hr
  gen:fd.scope.isGenerator=Hr
  kind:fd.scope.kind=.function
  body:fd.body=.stmts body
  code:∃c o vs t,fd.code=.ref c/\C.W.s1.heap.get? c=ER o/\¬C.W.tab c/\o.data=.fields vs/\vs[1]?=ER (.str fd.qualname t)
  clo:fd.closure=[]
  glob:fd.globals=Br
  blt:fd.builtins=Bt
  nm:C.nm=fd.scope.names
  nd:∀(i j:Nat) (x:Hv) (k k':AA),C.nm[i]?=ER (x,k)->C.nm[j]?=ER (x,k')->i=j
  lk:∀(i:Nat) (x:Hv) (k:AA),C.nm[i]?=ER (x,k)->fd.scope.names.lookup x=ER k
  cd:fd.code=C.cd
  nofree:∀(i:Nat) (x:Hv),C.nm[i]?≠ER (x,.free)
def qd7 (W:Wd) (fd:BV) (args:List AV) (kn:List Hv) (kv:List AV) (xs:List Hv) (vs:List AV):Prop:=
  ∀(fr:List HA) (g:Ht->Own) (σ:List AObj) (s:Ab) (us ks:List Hw),Rep W fr g σ s->RVs W g s.heap args us->RVs W g s.heap kv ks->∃ws,BindsTo s fd ⟨us,kn.zip ks⟩ (xs.zip ws)/\RVs W g s.heap vs ws
section
theorem Evo.wkB {Y':Nat->Prop}{s:Ab}(R:Rep W fr g σ s)(e:Evo W noX Y g s.heap g' h')(hY:∀n,n<σ.length->Y n->Y' n):Evo W noX Y' g s.heap g' h':=
  ⟨e.keep,λa o n ho hg hy=>e.keepL a o n ho hg λq=>hy (hY n (R.bnd a n hg) q),e.fz,e.loc,e.aux,e.oth,e.tabs⟩
noncomputable def qer:AFl->AV
  | .ret v=>v
  | _=>.none
noncomputable def qvg (f:Flow):Hw:=match f with | .ret v=>v | _=>.none
theorem qhr {f:Flow}(r:RFl W g h fl f):RV W g h (qer fl) (qvg f):=by
  cases fl with
  | next=>obtain rfl:f=.next:=r;exact (rfl:Value.none=Value.none)
  | brk=>obtain rfl:f=.brk:=r;exact (rfl:Value.none=Value.none)
  | cont=>obtain rfl:f=.cont:=r;exact (rfl:Value.none=Value.none)
  | ret v=>refine qa4 (r) ?_;intro v' eq_0_1 hv;subst eq_0_1;exact hv
end
end
section
section
def Kept (W:Wd) (f:AV):Prop:=∀(fr:List HA) (g:Ht->Own) (σ:List AObj) (s:Ab) (v:Hw),Rep W fr g σ s->RV W g s.heap f v ->
  ∃kp,(kp=FF\/kp=ES\/kp=DX)/\Looks (Hu W.prog W.w) s.heap (Hj v) kp
theorem Kept.builtin {id:String}:Kept W (.glob (.builtin id)):=λfr g σ s v R r=>by
  obtain rfl:v=.builtin id:=r;exact ⟨.machine,.inr (.inl rfl),Looks.of_pure rfl⟩
theorem Kept.type {id:String}:Kept W (.glob (.type id)):=λfr g σ s v R r=>by
  obtain rfl:v=.type id:=r;exact ⟨.machine,.inr (.inl rfl),Looks.of_pure rfl⟩
theorem Ico {fd:BV}(F:qqx C a fd body):Kept C.W (.glob (.ref a)):=λfr g σ s v R r=>by
  obtain rfl:v=.ref a:=r;refine qa4 (F.get) ?_;intro o ho hd;refine ⟨.frame,.inl rfl,λA Q E s' hk hq=>?_⟩;show Hs _ A (load a >>= _) Q E s';refine Aa (EC (hk _ _ (R.base a o ho F.nt)) ?_);rw[hd];exact Ad hq
theorem Kept.clo {l:Lam}{ns:List Hv}{cs:List AV}:Kept W (.clo l ns cs):=λfr g σ s v R r=>by
  refine qa1 (r) ?_;intro a fd vs eq_1_3 hg hc _;subst eq_1_3;refine ⟨.frame,.inl rfl,λA Q E s' hk hq=>?_⟩;show Hs _ A (load a >>= _) Q E s';exact Aa (EC (hk _ _ hc.get) (Ad hq))
theorem Kept.bound {f:String}{sv:AV}:Kept W (.bound f sv):=λfr g σ s v R r=>by
  refine qaz (r) ?_;intro a u eq_2_2 hg ho _;subst eq_2_2;refine ⟨.machine,.inr (.inl rfl),λA Q E s' hk hq=>?_⟩;show Hs _ A (load a >>= _) Q E s';exact Aa (EC (hk _ _ ho) (Ad hq))
structure EvK (C:Cx) (k:Nat) (fr:List HA) (m:List (Option AV)) (σ:List AObj) (kws:List G8) (kn:List Hv) (kv:List AV) (z':List AObj):Prop where
  names:∀env p,(FO p (Dm kws env)).filterMap (·.1)=kn/\(FO p (Dm kws env)).all (·.1.isSome)=Hq
  run:∀(A:BJ) (env:HA) (g:Ht->Own) (s:Ab) (p:Pos),Room k fr A->Rep C.W fr g σ s->Fra C env m g s.heap->∀(Q:List Hw->Ab->Prop) (E:Hw->Ab->Prop),
    (∀vs' g' s',Rep C.W fr g' z' s'->Evo C.W noX C.Y g s.heap g' s'.heap->RVs C.W g' s'.heap kv vs'->Q vs' s')->Hs (Hu C.W.prog C.W.w) A (evalAll ((FO p (Dm kws env)).map (·.2))) Q E s
theorem EvK.nil:EvK C k fr m σ [] [] [] σ:=⟨λenv p=>⟨rfl,rfl⟩,λA env g s p rm R F Q E hQ=>Ad (hQ [] g s R Evo.refl rfl)⟩
theorem qd6 (n:Option Hv)(e:Expr)(p:Pos)(r:List G8)(env:HA):Dm (⟨n,e,p⟩::r) env=(n,eval e env)::Dm r env:=rfl
theorem EvK.cons {r:List G8}(he:Ev C k fr m σ e v z1)(hr:EvK C k fr m z1 r kn kv z'):EvK C k fr m σ (⟨ER x,e,q⟩::r) (x::kn) (v::kv) z':=
  ⟨λenv p=>by
    rw[qd6];refine AC ?_ (hr.names env p);intro h1 h2;exact ⟨by show x::List.filterMap (·.1) (FO p (Dm r env))=_;rw[h1],by show (Hq&&List.all (FO p (Dm r env)) (·.1.isSome))=Hq;rw[h2];rfl⟩,λA env g s p rm R F Q E hQ=>by
    rw[qd6];show Hs _ A (evalAll ((do let v <- eval e env;Dx p;pure v)::(FO p (Dm r env)).map (·.2))) Q E s;refine wpAny_evalAll_cons (Aa (he A env g s rm R F _ _ λva g1 s1a R1 e1a ra=>Aa (AS (Ad ?_))));exact hr.run A env g1 s1a p rm R1 (F.up e1a) _ _ λvs' g2 s2 R2 e2a rv=>hQ _ g2 s2 R2 (e1a.trans e2a) ⟨va,vs',rfl,ra.up e2a,rv⟩⟩
theorem qd2 {s:Ab}{f:Hw}{args:List (Bool×Sem Hw)}{kws:List (Option Hv×Sem Hw)}{Q:Args->Ab->Prop}(hpl:args.any (·.1)=Hr)(hall:kws.all (·.1.isSome)=Hq)(h:Hs M A (spliced args) (λvs s1a=>Hs M A (evalAll (kws.map (·.2))) (λks s2=>Q ⟨vs,(kws.filterMap (·.1)).zip ks⟩ s2) E s1a) E s):Hs M A (evalArgs f Hq args kws) Q E s:=by
  have fin:Hs M A (spliced args >>= λpos=>Ea (pos++[]) (do
      let kw:=(kws.filterMap (·.1)).zip (<- evalAll (kws.map (·.2)))
      return (⟨pos,kw⟩:Args))) Q E s:=by
    refine Aa (AD h (λvs s1a h1a=>AK (Aa (AD h1a (λks s2 h2a=>Ad h2a) λ_ _ x=>x))) λ_ _ x=>x)
  cases args with
  | nil=>
    refine evalArgs_kw_nil hall ?_;exact λΓ p hΓ=>(h Γ p hΓ:_) Γ p hΓ
  | cons a r=>
    obtain ⟨b,x⟩:=a;have hb:b=Hr:=by simp at hpl;exact hpl.1
    subst hb;exact evalArgs_kw hall h
theorem qg7 {f:AV}{first:List AV}{kws:List G8}(hf:Kept C.W f)(ha:Evs C k fr m σ es args z1)(hk:EvK C k fr m z1 kws kn kv z2)(hc:Calls C.W C.Y k fr z2 f (first++args) kn kv v z')(hpl:∀env p,(Ft p (CV es env)).any (·.1)=Hr){s:Ab}{vf:Hw}{fs:List Hw}(rm:Room k fr A)(R:Rep C.W fr g σ s)(F:Fra C env m g s.heap)(rf:RV C.W g s.heap f vf)(rs:RVs C.W g s.heap first fs)(hQ:∀v' g' s',Rep C.W fr g' z' s'->Evo C.W noX C.Y g s.heap g' s'.heap->RV C.W g' s'.heap v v'->Q v' s'):
    Hs (Hu C.W.prog C.W.w) A (callWith p vf fs (Ft p' (CV es env)) (FO p' (Dm kws env))) Q E s:=by
  refine AC ?_ (hk.names env p');intro hn hal;refine G0 (P:=λh=>∃kp,(kp=FF\/kp=ES\/kp=DX)/\Looks (Hu C.W.prog C.W.w) h (Hj vf) kp) ?_ (λh q=>q) ?_
  . rw[hpl];simp only[Fc,List.any_eq_false];intro q hq;have:=BP.mp hal q hq;cases hq1:q.1 <;> simp_all
  . refine qd2 (hpl _ _) hal (ha A env g s p' rm R F _ _ λvs g1 s1a R1 e1a rv=>hk.run A env g1 s1a p' rm R1 (F.up e1a) _ _ λks g2 s2 R2 e2a rk=>?_);rw[hn];refine ⟨hf fr g2 z2 s2 vf R2 ((rf.up e1a).up e2a),?_⟩;exact hc A g2 s2 vf (fs++vs) ks rm R2 ((rf.up e1a).up e2a) (((rs.up e1a).up e2a).append (rv.up e2a)) rk Q E λv' g3 s3 R3 e3a r3=>hQ v' g3 s3 R3 ((e1a.trans e2a).trans e3a) r3
theorem Ev.call {kws:List G8}{f:AV}(hn:Ev C k fr m σ (.Name x q) f z1)(hf:Kept C.W f)(ha:Evs C k fr m z1 es args z2)(hk:EvK C k fr m z2 kws kn kv z3)(hc:Calls C.W C.Y k fr z3 f args kn kv v z')(hpl:autoParam (∀env p,(Ft p (CV es env)).any (·.1)=Hr) ap0._auto_1):Ev C k fr m σ (.Call (.Name x q) es kws p) v z':=λA env g s rm R F Q E hQ=>by
  refine C6 (hn A env g s rm R F _ _ λvf g1 s1a R1 e1a rf=>?_);exact qg7 (first:=[]) hf ha hk hc hpl rm R1 (F.up e1a) rf rfl λv' g2 s2 R2 e2a r2=>hQ v' g2 s2 R2 (e1a.trans e2a) r2
end
end
section
def Nd (o:Obj):Prop:=(∀es n,o.data≠.dict es n)/\(∀v,o.data≠.cell v)/\(∀vs,o.data=.fields vs->o.cls≠.type "code")/\o.cls≠.type "frame"
theorem ndf {n:String}{vs:Array Hw}(hd:o.data=.fields vs)(hc:o.cls=.type n)(hn:(n == "code" || n == "frame")=Hr):Nd o:=by
  refine AC ?_ (Bool.or_eq_false_iff.mp hn);intro h1 h2;refine ⟨λ_ _ q=>?_,λ_ q=>?_,λ_ _ q=>?_,λq=>?_⟩
  . cases hd.symm.trans q
  . cases hd.symm.trans q
  . cases hc.symm.trans q;exact CB h1
  . cases hc.symm.trans q;exact CB h2
theorem nds {n:String}{vs:Array Hw}(hd:o.data=.seq vs k)(hc:o.cls=.type n)(hn:(n == "frame")=Hr):Nd o:=by
  refine ⟨λ_ _ q=>?_,λ_ q=>?_,λ_ q=>?_,λq=>?_⟩
  . cases hd.symm.trans q
  . cases hd.symm.trans q
  . cases hd.symm.trans q
  . cases hc.symm.trans q;exact CB hn
structure Priv (W:Wd) (g:Ht->Own) (h:Heap) (a:Ht):Prop where
  own:g a=.other
  new:W.s1.heap.get? a=Dt
  obj:∃o,h.get? a=ER o/\(∀es n,o.data≠.dict es n)/\(∀v,o.data≠.cell v)/\(∀vs,o.data=.fields vs->o.cls≠.type "code")/\o.cls≠.type "frame"
section
variable {g2:Ht->Own} {s s2:Ab}
theorem Iax (h:W.s1.heap.get? a=Dt):¬W.tab a:=λq=>by rw[W.tabEx a q] at h;cases h
theorem Priv.xok {C:Ht->Prop}(hC:∀a,C a->Priv W g h a):XOk C g h:=λa ha=>
  ⟨.inl (hC a ha).own,λo vs ho hd=>by
    refine qew ((hC a ha).obj) ?_;intro o' ho' _ _ hc _;rw[ho] at ho';obtain rfl:=Sj ho';exact hc vs hd⟩
theorem Rep.turn2 (R:Rep W fr g σ s)(tk:Nat)(C:Ht->Prop)(hC:∀a,C a->Priv W g s.heap a)(hg:∀a o,s.heap.get? a=ER o->¬C a->g' a=g a)(hg':∀a,C a->g' a=.other\/(g' a=.fz/\∃o,h'.get? a=ER o))(hn:∀a,s.heap.get? a=Dt->g' a=.other\/(g' a=.fz/\∃o,h'.get? a=ER o))(hk:∀a o,s.heap.get? a=ER o->¬C a->h'.get? a=ER o):
    Rep W fr g' σ { s with heap:=h',toks:=tk }/\Evo W C noY g s.heap g' h':=by
  have hX:=Priv.xok hC;have hnC:∀{a:Ht},g a≠.other->¬C a:=λ{a} q hc=>q (hC a hc).own
  have hin:∀{a:Ht},g a≠.other->g' a=g a:=λ{a} q=>by refine Ap (R.low a q) ?_;intro o ho;exact hg a o ho (hnC q)
  have hcase:∀a,(∃o,s.heap.get? a=ER o)\/s.heap.get? a=Dt:=λa=>by cases s.heap.get? a with | none=>exact .inr rfl | some o=>exact .inl ⟨o,rfl⟩
  have hback:∀a,g' a=g a\/g' a=.other\/(g' a=.fz/\∃o,h'.get? a=ER o):=λa=>by
    rcases hcase a with ⟨o,ho⟩ | ho
    . by_cases hc:C a
      . exact .inr (hg' a hc)
      . exact .inl (hg a o ho hc)
    . exact .inr (hn a ho)
  have hlc:∀a k,g' a=.loc k->g a=.loc k:=λa k q=>by
    rcases hback a with r | r | ⟨r,_⟩
    . rw[<- r];exact q
    . rw[r] at q;cases q
    . rw[r] at q;cases q
  have hla:∀a k,g' a=.aux k->g a=.aux k:=λa k q=>by
    rcases hback a with r | r | ⟨r,_⟩
    . rw[<- r];exact q
    . rw[r] at q;cases q
    . rw[r] at q;cases q
  have hnb:∀{a o},W.s1.heap.get? a=ER o->¬C a:=λ{a o} ho hc=>by rw[(hC a hc).new] at ho;cases ho
  have hnt:∀{a},W.tab a->¬C a:=λ{a} ht hc=>Iax (hC a hc).new ht
  have e:Evo W C noY g s.heap g' h':=⟨λa o ho hx _=>.of (hk a o ho hx),λa o n ho hq _=>hk a o ho (hnC (by rcases hq with q | q <;> rw[q] <;> exact nofun)),λa q hx=>by rw[hin (by rw[q];exact nofun)];exact q,
    λa n q=>by rw[hin (by rw[q];exact nofun)];exact q,λa n q=>by rw[hin (by rw[q];exact nofun)];exact q,λa o ho q hx=>.inl (by rw[hg a o ho hx];exact q),λa o ht ho=>⟨o,hk a o ho (hnt ht)⟩⟩
  refine ⟨⟨λa o ho ht=>hk a o (R.base a o ho ht) (hnb ho),λa o ho=>?_,
    λa ht=>?_,λa ht=>?_,λa ha=>?_,λn ao ho=>?_,λa b n qa qb=>R.uniq a b n (hlc a n qa) (hlc b n qb),R.pl,λa n q=>R.bnd a n (q.imp (hlc a n) (hla a n)),λen he=>?_,R.gens,R.os⟩,e⟩
  . by_cases ht:W.tab a
    . refine qa4 (R.tabs a ht) ?_;intro more h2 _;rw[hg a _ h2 (hnb ho)];exact R.baseO a o ho
    . rw[hg a _ (R.base a o ho ht) (hnb ho)];exact R.baseO a o ho
  . refine qa4 (R.tabs a ht) ?_;intro more h2 _;rw[hg a _ h2 (hnt ht)];exact R.tabO a ht
  . refine qaj (R.tabs a ht) ?_;intro more h2 h3 h4;exact ⟨more,hk a _ h2 (hnt ht),h3,λpos v q=>(h4 pos v q).mono e hX⟩
  . rcases hback a with r | r | ⟨_,r⟩
    . rw[r] at ha;refine Ap (R.low a ha) ?_;intro o ho;exact ⟨o,hk a o ho (hnC ha)⟩
    . exact absurd r ha
    . exact r
  . refine qa4 (R.locs n ao ho) ?_;intro a qa hr;exact ⟨a,e.loc a n qa,hr.mono e hX (λo q=>hk a o q (hnC (by rw[qa];exact nofun))) (λd hd o q=>hk d o q (hnC (by rw[hd];exact nofun))) ao (R.pl n ao ho)⟩
  . refine qaf (R.frs en he) ?_;intro f o es ep h1 h2 h3 h4 h5;have hc:¬C f:=λhc=>by
      refine qaj ((hC f hc).obj) ?_;intro o' ho' q _;rw[h2] at ho';obtain rfl:=Sj ho';exact q _ _ h3
    exact ⟨f,o,es,ep,h1,hk f o h2 hc,h3,by rw[hg f o h2 hc];exact h4,h5⟩
theorem Iaw (R:Rep W fr g σ s)(e:Evo W noX Y g s.heap g2 s2.heap)(R2:Rep W fr g2 z' s2)(ha:s2.heap.get? a=Dt):s.heap.get? a=Dt:=by
  cases q:s.heap.get? a with
  | none=>rfl
  | some o=>
    exfalso
    have hlow:g2 a=.other:=Df λr=>by refine Ap (R2.low a r) ?_;intro o ho;rw[ha] at ho;cases ho
    cases hg:g a with
    | fz=>rw[e.fz a hg λx=>x] at hlow;cases hlow
    | loc n=>rw[e.loc a n hg] at hlow;cases hlow
    | aux n=>rw[e.aux a n hg] at hlow;cases hlow
    | other=>
      by_cases ht:W.tab a
      . refine Ap (e.tabs a o ht q) ?_;intro o' ho';rw[ha] at ho';cases ho'
      . refine qa4 ((e.keep a o q (λx=>x) (.inr ⟨hg,ht⟩)).ex) ?_;intro o' ho' _;rw[ho'] at ha;cases ha
theorem Rep.new1 (R:Rep W fr g σ s)(ha:s.heap.get? a=Dt):W.s1.heap.get? a=Dt:=by
  cases q:W.s1.heap.get? a with
  | none=>rfl
  | some o=>
    by_cases ht:W.tab a
    . refine qa4 (R.tabs a ht) ?_;intro more h2 _;rw[ha] at h2;cases h2
    . have:=R.base a o q ht;rw[ha] at this;cases this
theorem Rep.newO (R:Rep W fr g σ s)(ha:s.heap.get? a=Dt):g a=.other:=Df λq=>by
  refine Ap (R.low a q) ?_;intro o ho;rw[ha] at ho;cases ho
theorem Priv.keep (F:Fra C env m g h)(e:Evo C.W (FX C.nm env) C.Y g h g' h')(p:Priv C.W g h a)(ho:h.get? a=ER o):h'.get? a=ER o/\Priv C.W g' h' a:=by
  refine qbl (p.obj) ?_;intro o' ho' hd hc hk;rw[ho] at ho';obtain rfl:=Sj ho';have hx:¬FX C.nm env a:=λhx=>by
    rcases hx with rfl | ⟨i,x,hi,hcl⟩
    . refine qa4 (F.ns) ?_;intro mh ne_15_1 _;refine qap ne_15_1 ?_;intro oL es ep hL hLd _;rw[ho] at hL;obtain rfl:=Sj hL;exact hd _ _ hLd
    . refine qaz (F.cell i x .cell hi rfl) ?_;intro c ov h3 h4 h5 _;rw[hcl] at h3;obtain rfl:=Sj h3;rw[ho] at h5;obtain rfl:=Sj h5;exact hc _ rfl
  have h1:=(e.keep a o ho hx (.inr ⟨p.own,Iax p.new⟩)).get hk.2;refine ⟨h1,?_,p.new,o,h1,hd,hc,hk⟩;rcases e.oth a o ho p.own hx with q | ⟨_,v,q⟩
  . exact q
  . rw[h1] at q;obtain rfl:=Sj q;exact absurd rfl (hc v)
theorem Iap (e:Evo W noX Y g h g' h')(p:Priv W g h a)(ho:h.get? a=ER o):h'.get? a=ER o/\Priv W g' h' a:=by
  refine qbl (p.obj) ?_;intro o' ho' hd hc hk;rw[ho] at ho';obtain rfl:=Sj ho';have h1:=(e.keep a o ho (λx=>x) (.inr ⟨p.own,Iax p.new⟩)).get hk.2;refine ⟨h1,?_,p.new,o,h1,hd,hc,hk⟩;rcases e.oth a o ho p.own (λx=>x) with q | ⟨_,v,q⟩
  . exact q
  . rw[h1] at q;obtain rfl:=Sj q;exact absurd rfl (hc v)
theorem Fra.turn {X:Ht->Prop}(F:Fra C env m g h)(hX:∀a,X a->Priv C.W g h a)(e:Evo C.W X Y g h g' h'):Fra C env m g' h':=by
  have hXo:=Priv.xok hX;have up:∀av v,RV C.W g h av v->RV C.W g' h' av v:=λav v r=>r.mono e hXo av (.inl λa q=>(hX a q).own) v
  refine qa4 (F.ns) ?_;intro mh ne_18_1 hm;refine qap ne_18_1 ?_;intro oL es ep hL hLd r;have hxL:¬X env.locals:=λq=>by
    refine qaj ((hX _ q).obj) ?_;intro o ho hd _;rw[hL] at ho;obtain rfl:=Sj ho;exact hd _ _ hLd
  refine qaj ((e.keep _ _ hL hxL (.inr ⟨F.Lo,qb2 F.Lz⟩)).ex) ?_;intro oL' hL' hLd' _;rw[hLd] at hLd';refine ⟨F.kind,F.names,F.nd,F.glob,F.blt,F.code,?_,F.Lz,⟨mh,⟨oL',es,ep,hL',hLd',r⟩,λi x av h1 h2=>?_⟩,λi x k h1 h2=>?_,F.pl,F.inj⟩
  . rcases e.oth _ _ hL F.Lo hxL with q | ⟨_,u,q⟩
    . exact q
    . rw[hL'] at q;obtain rfl:=Sj q;cases hLd'
  . refine qa4 (hm i x av h1 h2) ?_;intro v h3 h4;exact ⟨v,h3,up _ _ h4⟩
  . refine qan (F.cell i x k h1 h2) ?_;intro c ov h3 h4 h5 h6 h7;have hxc:¬X c:=λq=>by
      refine qbl ((hX _ q).obj) ?_;intro o ho _ hc _;rw[h5] at ho;obtain rfl:=Sj ho;exact hc _ rfl
    have h5':h'.get? c=ER (qat ov):=(e.keep _ _ h5 hxc (h6.symm.imp id λq=>⟨q,qb2 h4⟩)).get;refine ⟨c,ov,h3,h4,h5',?_,λav q=>?_⟩
    . rcases h6 with q | q
      . exact (e.oth _ _ h5 q hxc).imp id (·.1)
      . exact .inr (e.fz _ q hxc)
    . refine qa4 (h7 av q) ?_;intro v h8 h9;exact ⟨v,h8,up _ _ h9⟩
end
set_option genInjectivity false in
inductive AIt where
  | seq (v:AV) (l:List AV)
  | tup (l:List AV)
  | range (a c:Int) (n:Nat)
  | enum (v:AV) (l:List AV)
  | zip (v1:AV) (l1:List AV) (v2:AV) (l2:List AV)
noncomputable def AIt.items:AIt->List AV
  | .seq _ l=>l
  | .tup l=>l
  | .range a c n=>(Ae n).map λi=>.int (a+(i:Nat)*c)
  | .enum _ l=>l.zipIdx.map λp=>.tup [.int p.2,p.1]
  | .zip _ l1 _ l2=>List.zipWith (λa b=>.tup [a,b]) l1 l2
noncomputable def AIt.Ok (σ:List AObj):AIt->Prop
  | .seq v l=>Lv σ v l
  | .enum v l=>Lv σ v l
  | .zip v1 l1 v2 l2=>(Lv σ v1 l1\/v1=.tup l1)/\Lv σ v2 l2
  | _=>True
noncomputable def AIt.plain:AIt->Bool
  | .seq v _=>Mine.plain v
  | .tup l=>Mine.plains l
  | .enum v _=>Mine.plain v
  | .zip v1 _ v2 _=>Mine.plain v1&&Mine.plain v2
  | .range ..=>Hq
noncomputable def AIt.pairs:AIt->Bool
  | .enum ..=>Hq
  | .zip ..=>Hq
  | _=>Hr
noncomputable def isT:AV->Bool
  | .tup _=>Hq
  | _=>Hr
def ItL (h:Heap) (v:AV) (r la:Ht) (i:Nat):Prop:=(isT v=Hq/\h.IsTupleIter r la i)\/(isT v=Hr/\h.IsListIter r la i)
theorem ItL.at {r:Ht}(x:ItL h v r la i)(e:∀o,h.get? r=ER o->h'.get? r=ER o):ItL h' v r la i:=x.imp (λq=>⟨q.1,q.2.at e⟩) λq=>⟨q.1,q.2.at e⟩
noncomputable def AIt.St (W:Wd) (g:Ht->Own) (h:Heap) (ws:List Ht) (it:Hw) (i:Nat):AIt->Prop
  | .seq v l=>∃r la,it=.ref r/\ws=[r]/\RV W g h v (.ref la)/\h.IsListIter r la i
  | .tup l=>∃r la vs k,it=.ref r/\ws=[r]/\g la=.fz/\h.get? la=ER (qm9 vs k)/\RVs W g h l vs.toList/\h.IsTupleIter r la i
  | .range a c n=>∃r,it=.ref r/\ws=[r]/\IsRangeIter h r (a+(i:Nat)*c) ((n:Int) - (i:Nat)) c
  | .enum v l=>∃e r la,it=.ref e/\ws=[e,r]/\e≠r/\RV W g h v (.ref la)/\(∃old,IsEnum h e r i old)/\h.IsListIter r la i
  | .zip v1 l1 v2 l2=>∃z TI TO i1 i2 la lb,it=.ref z/\ws=[z,TI,TO,i1,i2]/\ws.Nodup/\RV W g h v1 (.ref la)/\RV W g h v2 (.ref lb) /\
      IsZip h z TI TO .none/\ET h TI (.ref i1) (.ref i2)/\(∃a b,ET h TO a b)/\ItL h v1 i1 la i/\h.IsListIter i2 lb i
theorem AIt.St.mono {X:Ht->Prop}(e:Evo W X Y g h g' h')(hX:XOk X g h)(hk:∀a∈ws,∀o,h.get? a=ER o->h'.get? a=ER o)(ai:AIt)(hp:(∀a,X a->g a=.other)\/ai.plain=Hq)(S:ai.St W g h ws it i):ai.St W g' h' ws it i:=by
  cases ai with
  | seq v l=>
    refine qaz S ?_;intro r la h1 h2 h3 h4;subst h2;exact ⟨r,la,h1,rfl,h3.mono e hX v hp _,h4.at (hk r (.head _))⟩
  | tup l=>
    refine qar S ?_;intro r la vs k h1 h2 h3 h4 h5 h6;subst h2;have hx:¬X la:=hX.not h3 h4 (λq=>by simp at q);exact ⟨r,la,vs,k,h1,rfl,e.fz la h3 hx,(e.keep la _ h4 hx (.inl h3)).get,h5.mono e hX l hp _,h6.at (hk r (.head _))⟩
  | range a c n=>
    refine qaj S ?_;intro r h1 h2 h3;subst h2;exact ⟨r,h1,rfl,hk r (.head _) _ h3⟩
  | enum v l=>
    refine qb1 S ?_;intro ee r la h1 h2 h3 h4 h5 h6;subst h2;exact ⟨ee,r,la,h1,rfl,h3,h4.mono e hX v hp _,h5.imp λ_ q=>hk ee (.head _) _ q,h6.at (hk r (.tail _ (.head _)))⟩
  | zip v1 l1 v2 l2=>
    refine qau S ?_;intro z TI TO i1 i2 la lb h1 h2 h3 h4 h5 h6 h7 h8 h9 h10;subst h2;have hq:=hp.imp_right λq=>Ay.mp q
    have k1:=λx y=>hk x (.tail _ y)
    exact ⟨z,TI,TO,i1,i2,la,lb,h1,rfl,h3,h4.mono e hX v1 (hq.imp_right (·.1)) _,h5.mono e hX v2 (hq.imp_right (·.2)) _,hk z (.head _) _ h6,k1 TI (.head _) _ h7,h8.imp λ_ q=>q.imp λ_ q=>k1 TO (.tail _ (.head _)) _ q,h9.at (k1 i1 (.tail _ (.tail _ (.head _)))),h10.at (k1 i2 (.tail _ (.tail _ (.tail _ (.head _)))))⟩
end
variable {ai:AIt}
section
theorem AIt.St.objs (ai:AIt)(S:ai.St W g h ws it i):∀a∈ws,∃o,h.get? a=ER o/\(∀es n,o.data≠.dict es n)/\(∀v,o.data≠.cell v)/\(∀vs,o.data=.fields vs->o.cls≠.type "code")/\o.cls≠.type "frame":=by
  show ∀a∈ws,∃o,h.get? a=ER o/\Nd o;have li:∀{r la:Ht} {i:Nat},h.IsListIter r la i->∃o,h.get? r=ER o/\Nd o:=λh=>Ap h λo q=>⟨o,q.1,ndf q.2.2 q.2.1 rfl⟩
  cases ai with
  | seq v l=>refine qaz S ?_;intro r la h1 h2 h3 h4;subst h2;exact fac (li h4) fa0
  | tup l=>refine qar S ?_;intro r la vs k h1 h2 h3 h4 h5 h6;subst h2;exact fac (Ap h6 λo q=>⟨o,q.1,ndf q.2.2 q.2.1 rfl⟩) fa0
  | range a c n=>refine qaj S ?_;intro r h1 h2 h3;subst h2;exact fac ⟨_,h3,ndf rfl rfl rfl⟩ fa0
  | enum v l=>
    refine qb1 S ?_;intro ee r la h1 h2 h3 h4 h5 h6;subst h2;exact fac (h5.elim λ_ q=>⟨_,q,ndf rfl rfl rfl⟩) (fac (li h6) fa0)
  | zip v1 l1 v2 l2=>
    refine qau S ?_;intro z TI TO i1 i2 la lb h1 h2 h3 h4 h5 h6 h7 h8 h9 h10;subst h2;have pr:∀{a:Ht} {u v:Hw},ET h a u v->∃o,h.get? a=ER o/\Nd o:=λq=>⟨_,q,nds rfl rfl rfl⟩
    exact fac ⟨_,h6,ndf rfl rfl rfl⟩ (fac (pr h7) (fac (h8.elim λ_ q=>q.elim λ_ q=>pr q) (fac (h9.elim (λq=>Ap q.2 λo q=>⟨o,q.1,ndf q.2.2 q.2.1 rfl⟩) λq=>li q.2) (fac (li h10) fa0))))
theorem qd0 {s:Ab}{r:Ht}{v:Hw}{Q:Unit->Ab->Prop}{n:String}{vs:Array Hw}(ho:s.heap.get? r=ER o)(hc:o.cls=.type n)(hd:o.data=.fields vs)(hn:(["enumerate", "zip", "dict_itemiterator", "dict_reverseitemiterator", "odict_iterator", "itertools.zip_longest", "itertools.pairwise"].contains n)=Hr)(hQ:Q () s):
    Hs (Hu prog w) A (Et t (.ref r) v) Q E s:=by
  have key:∀a,Hs (Hu prog w) A (do
      let o <- load r
      match o.cls,o.data with
      | .type n,.fields vs=>
        if ["enumerate", "zip", "dict_itemiterator", "dict_reverseitemiterator", "odict_iterator", "itertools.zip_longest", "itertools.pairwise"].contains n&&vs[0]? == ER (C7 a) then
          rule "for.unpacks-the-owned-tuple"
          updateField r 0 .none
      | _,_=>pure ()) Q E s:=λa=>by
    refine Aa (EC ho ?_);rw[hc,hd];show Hs _ A (if (_&&_)=Hq then _ else _) Q E s;rw[hn,DD,if_neg (by simp)];exact Ad hQ
  unfold Et;cases t <;> first
    | exact Ad hQ
    | (cases v <;> first | exact Ad hQ | exact key _)
section
variable {s:Ab}
theorem qlj {it t:Ht}{xs:Array Hw}(hit:s.heap.IsTupleIter it t i)(ht:s.heap.IsTuple t xs)(h1:∀x,xs[i]?=ER x->∀h',h'.IsTupleIter it t (i+1)->AI it s.heap h'->Q x { s with heap:=h' })(h2:xs[i]?=Dt->A.handled=Dt/\∀h' e,Ga it s.heap h'->(∃o,h'.get? e=ER o/\o.cls=.type "StopIteration")->E (.ref e) { s with heap:=h' }):Hs (Hu prog w) A (Ct (.ref it)) Q E s:=by
  refine qaj (id hit) ?_;intro o ho hc hd;obtain ⟨ol,hol,_,nl,hdl⟩:=ht;unfold Ct;refine Aa (DE (name:=Bh "__next__") hit.typeIs PySem.F.slot_tuple_iterator_next (Eb PySem.F.slot_tuple_iterator_next hit.typeIs PySem.F.entry_tuple_iterator_next ?_ (PySem.F.args_tuple_iterator_next_1 _)));show Hs _ _ (field (.ref it) 0 >>= _) _ _ s;refine Aa (Cq ho hd (x:=.ref t) rfl ?_);show Hs _ _ (field (.ref it) 1 >>= _) _ _ s;refine Aa (Cq ho hd (x:=.int i 0) rfl ?_);show Hs _ _ (G9 (.ref t) >>= _) _ _ s;refine Aa (C8 hol hdl ?_);simp only[DY];cases hx:xs[i]? with
  | some x=>
    refine Aa (EU ho hd (by simp) (Ad ⟨x,rfl,Ad (h1 x hx _ ⟨_,Be _ ho (DT (CC hd _)),(Obj.cls_mapFields ..).trans hc,?_⟩ (Bb ..))⟩));rw[CC hd];simp[C7]
  | none=>
    obtain ⟨hh,hE⟩:=h2 hx;refine Aa (FP (Aa (EU ho hd (by simp) ?_)));show Hs _ _ (newExc (.type "StopIteration") [] >>= _) _ _ _;refine Aa ?_;simp only[newExc,newTuple];refine Aa (Bx ?_ (by size_fits));refine Aa (m:=FQ _ _) (Gb (a:=Value.none) (by first | rfl | (simp only[FQ];rfl)) ?_);refine Bx ?_ (by size_fits);simp only[raiseNew];refine Aa (wpAny_handled ?_);first | rw[show A.in1.handled=Dt from hh] | rw[hh]
    exact Aa (Ad (wpAny_throw (hE _ _ (((Bb ..).extBut.push _).push _) ⟨_,Al _ rfl,rfl⟩)))
def Drw (prog:Dw) (w:World) (h:Heap) (v:AV) (r la:Ht) (i:Nat) (xs:Array Hw):Prop:=∀(A:BJ) (s:Ab) (Q E:Hw->Ab->Prop),(∀o,h.get? r=ER o->s.heap.get? r=ER o)->(∀o,h.get? la=ER o->s.heap.get? la=ER o)->
  (∀x,xs[i]?=ER x->∀h',ItL h' v r la (i+1)->AI r s.heap h'->Q x { s with heap:=h' })->(xs[i]?=Dt->A.handled=Dt/\∀h' e,Ga r s.heap h'->(∃o,h'.get? e=ER o/\o.cls=.type "StopIteration")->E (.ref e) { s with heap:=h' })->Hs (Hu prog w) A (Ct (.ref r)) Q E s
theorem qsn {r:Ht}{xs:Array Hw}(hv:isT v=Hq)(hi:h.IsTupleIter r la i)(ht:h.IsTuple la xs):Drw prog w h v r la i xs:=λA s Q E k1 k2 h1 h2=>
  qlj (hi.at k1) (ht.elim λo q=>⟨o,k2 o q.1,q.2⟩) (λx hx h' q=>h1 x hx h' (.inl ⟨hv,q⟩)) h2
theorem qso {r:Ht}{xs:Array Hw}(hv:isT v=Hr)(hi:h.IsListIter r la i)(ht:h.IsList la xs):Drw prog w h v r la i xs:=λA s Q E k1 k2 h1 h2=>by
  cases hx:xs[i]? with
  | some x=>exact wpAny_nextOf_list_item (hi.at k1) (ht.at k2) hx λh' q=>h1 x hx h' (.inr ⟨hv,q⟩)
  | none=>exact wpAny_nextOf_list_end (h2 hx).1 (hi.at k1) (ht.at k2) hx (h2 hx).2
theorem qot {z TI TO i1 i2 l1 l2:Ht}{xs ys:Array Hw}{a b:Hw}(D:ZipApart z TI TO i1 i2 l1 l2)(hh:A.handled=Dt)(hz:IsZip s.heap z TI TO .none)(hTI:ET s.heap TI (.ref i1) (.ref i2))(hTO:ET s.heap TO a b)(hd:Drw prog w s.heap v i1 l1 k xs)(h2:s.heap.IsListIter i2 l2 k)(hl2:s.heap.IsList l2 ys)(item:∀x y,xs[k]?=ER x->ys[k]?=ER y->∀h',IsZip h' z TI TO (C7 s.heap.objs.size)->ET h' TO x y->ItL h' v i1 l1 (k+1)->h'.IsListIter i2 l2 (k+1)->ET h' s.heap.objs.size x y->(∀c o,c≠z->c≠TO->c≠i1->c≠i2->s.heap.get? c=ER o->h'.get? c=ER o)->Q (.ref s.heap.objs.size) { s with heap:=h' })(fin:(xs[k]?=Dt\/ys[k]?=Dt)->∀h' e,(∀c o,c≠z->c≠TO->c≠i1->c≠i2->s.heap.get? c=ER o->h'.get? c=ER o)->(∃o,h'.get? e=ER o/\o.cls=.type "StopIteration")->E (.ref e) { s with heap:=h' }):
    Hs (Hu prog w) A (Ax.«zip.__next__» ⟨[.ref z],[]⟩) (λfin s'=>∃v,fin=.done (.ret v)/\Q v s') E s:=by
  show Hs _ _ (field (.ref z) 2 >>= _) _ _ _;refine Aa (Cq hz rfl (x:=.bool Hr) rfl ?_);show Hs _ _ (field (.ref z) 3 >>= _) _ _ _;refine Aa (Cq hz rfl (x:=.ref TI) rfl (Aa (C8 hTI rfl ?_)));show Hs _ _ (Ax.SmallTypes.ownedTupleIsFree (.ref z) >>= _) _ _ _;refine Aa (Aa (Cq hz rfl (x:=.none) rfl (Ad ?_)));refine Aa (FP (Aa (Cq hz rfl (x:=.ref TO) rfl ?_)));refine Aa (EE hz (by simp) λha za sa=>Aa ?_);simp only[List.zipIdx_cons,List.zipIdx_nil,Cg,C5];refine Aa (Aa (Ds ?_));show Hs _ _ (Ct (.ref i1) >>= _) _ _ _;have hend:∀{h:Heap} {e:Ht},(h.get? z=ER { cls:=.type "zip",dict:=Dt,data:=.fields #[.ellipsis,.bool Hr,.bool Hr,.ref TI,.ref TO],slots:=#[] })->(∀c o,c≠z->c≠TO->c≠i1->c≠i2->s.heap.get? c=ER o->h.get? c=ER o)->(∃o,h.get? e=ER o/\o.cls=.type "StopIteration")->(xs[k]?=Dt\/ys[k]?=Dt)->Hs (Hu prog w) A (setField (.ref z) 0 .none) (λ_ s'=>E (.ref e) s') E { s with heap:=h }:=λ{h e} zz kk he q=>by
    obtain ⟨oe,hoe,hce⟩:=he;have hez:e≠z:=λx=>by rw[x,zz] at hoe;rw[<- Sj hoe] at hce;simp at hce
    exact EE zz (by simp) λh' _ ss=>fin q h' e (λc o c1 c2 c3 c4 x=>ss.extBut _ _ c1 (kk c o c1 c2 c3 c4 x)) ⟨oe,ss.extBut _ _ hez hoe,hce⟩
  refine Aa (hd A _ _ _ (λo x=>sa.extBut _ _ D.i1z x) (λo x=>sa.extBut _ _ D.l1z x) (λx hx hb tb sb=>Ad ?_) λhx=>⟨hh,λhb e sb he=>hend (sb _ _ D.i1z.symm za) (λc o c1 _ c3 _ q=>sb _ _ c3 (sa.extBut _ _ c1 q)) he (.inl hx)⟩);have tO:ET hb TO a b:=sb.extBut _ _ D.TOi1 (sa.extBut _ _ D.TOz hTO);refine Aa (C8 tO rfl (Aa (wpAny_updateSeq_pair tO λhc tc sc=>Aa (wpAny_letGo (Ad (Aa (Aa (Ds ?_))))))));show Hs _ _ (Ct (.ref i2) >>= _) _ _ _;have k2:∀{c o},c≠z->c≠i1->c≠TO->s.heap.get? c=ER o->hc.get? c=ER o:=λc1 c2 c3 q=>sc.extBut _ _ c3 (sb.extBut _ _ c2 (sa.extBut _ _ c1 q))
  have zc:=sc.extBut _ _ D.TOz.symm (sb.extBut _ _ D.i1z.symm za);have i2c:=h2.at λo q=>k2 D.i2z D.i12.symm D.TOi2.symm q
  have l2c:=hl2.at λo q=>k2 D.l2z D.l2i1 D.l2TO q
  cases hy:ys[k]? with
  | none=>
    exact Aa (wpAny_nextOf_list_end hh i2c l2c hy λhd' e sd he=>hend (sd _ _ D.i2z.symm zc) (λc o c1 c2 c3 c4 q=>sd _ _ c4 (k2 c1 c3 c2 q)) he (.inr hy))
  | some y=>
    refine Aa (wpAny_nextOf_list_item i2c l2c hy λhd' td sd=>Ad ?_);have tD:ET hd' TO x b:=sd.extBut _ _ D.TOi2 tc;refine Aa (C8 tD rfl (Aa (wpAny_updateSeq_pair tD λhe te se=>?_)))
    replace te:ET he TO x y:=te
    refine Aa (wpAny_letGo (Ad (Ad (Aa (C8 te rfl (Aa (wpAny_newTuple ?_)))))));have hsz:he.objs.size=s.heap.objs.size:=se.1.trans (sd.1.trans (sc.1.trans (sb.1.trans sa.1)));have ze:=se.extBut _ _ D.TOz.symm (sd.extBut _ _ D.i2z.symm zc);have zlt:=CF (EQ ze);refine Aa (Aa (EE (Am _ ze) (by simp) λhf zf sf=>EE zf (by simp) λhg zg sg=>Ad ⟨_,rfl,?_⟩));have up:∀{c o},c≠z->he.get? c=ER o->hg.get? c=ER o:=λc1 q=>sg.extBut _ _ c1 (sf.extBut _ _ c1 (Am _ q))
    have tg:ET hg he.objs.size x y:=sg.extBut _ _ zlt (sf.extBut _ _ zlt (Al _ rfl));have r:=item x y hx hy hg;show Q (.ref he.objs.size) _;rw[<- hsz] at r;exact r zg (up D.TOz te) (tb.at λo q=>up D.i1z (se.extBut _ _ D.TOi1.symm (sd.extBut _ _ D.i12 (sc.extBut _ _ D.TOi1.symm q)))) (td.at λo q=>up D.i2z (se.extBut _ _ D.TOi2.symm q)) tg λc o c1 c2 c3 c4 q=>up c1 (se.extBut _ _ c2 (sd.extBut _ _ c4 (k2 c1 c3 c2 q)))
theorem qk6 {z TI TO i1 i2 l1 l2:Ht}{xs ys:Array Hw}{a b:Hw}{Q:Option Hw->Ab->Prop}(D:ZipApart z TI TO i1 i2 l1 l2)(hh:A.handled=Dt)(hz:IsZip s.heap z TI TO .none)(hTI:ET s.heap TI (.ref i1) (.ref i2))(hTO:ET s.heap TO a b)(hd:Drw prog w s.heap v i1 l1 k xs)(h2:s.heap.IsListIter i2 l2 k)(hl2:s.heap.IsList l2 ys)(item:∀x y,xs[k]?=ER x->ys[k]?=ER y->∀h',IsZip h' z TI TO (C7 s.heap.objs.size)->ET h' TO x y->ItL h' v i1 l1 (k+1)->h'.IsListIter i2 l2 (k+1)->ET h' s.heap.objs.size x y->(∀c o,c≠z->c≠TO->c≠i1->c≠i2->s.heap.get? c=ER o->h'.get? c=ER o)->Q (ER (.ref s.heap.objs.size)) { s with heap:=h' })(fin:(xs[k]?=Dt\/ys[k]?=Dt)->∀h',(∀c o,c≠z->c≠TO->c≠i1->c≠i2->s.heap.get? c=ER o->h'.get? c=ER o)->Q Dt { s with heap:=h' }):Hs (Hu prog w) A (pyNext (.ref z)) Q E s:=by
  have hT:s.TypeIs (.ref z) "zip":=⟨_,hz,rfl⟩
  unfold pyNext;refine Aa (wpAny_attempt (DE (name:=Bh "__next__") hT PySem.F.slot_zip_next (Eb PySem.F.slot_zip_next hT PySem.F.entry_zip_next
    (qot D (by exact hh) hz hTI hTO hd h2 hl2 (λx y hx hy h' a1 a2 a3 a4 a5 a6=>Ad (item x y hx hy h' a1 a2 a3 a4 a5 a6)) λq h' e kk he=>?_) (PySem.F.args_zip_next_1 _))))
  exact Aa (E7 (T:="StopIteration") (b:=Hq) he isSubtype_stop (Ad (fin q h' kk)))
end
section
variable {s:Ab}
theorem Icw {ai:AIt}(R:Rep W fr g σ s)(hP:∀a∈ws,Priv W g s.heap a)(tk:Nat)(T:Option Ht)(hT:∀t,T=ER t->s.heap.get? t=Dt/\∃o,h'.get? t=ER o)(hk:∀b o,b∉ws->s.heap.get? b=ER o->h'.get? b=ER o):
    ∃g',Rep W fr g' σ { s with heap:=h',toks:=tk }/\Evo W (·∈ws) noY g s.heap g' h'/\(∀t,T=ER t->g' t=.fz)/\∀a∈ws,g' a=.other:=by
  have hnot:∀t,T=ER t->∀a∈ws,a≠t:=λt ht a ha q=>by
    refine qa4 ((hP a ha).obj) ?_;intro o ho _;rw[q,(hT t ht).1] at ho;cases ho
  cases T with
  | none=>
    obtain ⟨R',e'⟩:=R.turn2 (g':=g) (h':=h') tk (·∈ws) hP (λ_ _ _ _=>rfl) (λa ha=>.inl (hP a ha).own) (λa ha=>.inl (R.newO ha)) (λa o ho ha=>hk a o ha ho);exact ⟨g,R',e',(λt q=>by cases q),λa ha=>(hP a ha).own⟩
  | some t=>
    obtain ⟨h1,h2⟩:=hT t rfl;obtain ⟨R',e'⟩:=R.turn2 (g':=qbw g t .fz) (h':=h') tk (·∈ws) hP (λa o ho _=>qa5 λq=>by rw[q,h1] at ho;cases ho) (λa ha=>.inl (by rw[qa5 (hnot t rfl a ha)];exact (hP a ha).own))
      (λa ha=>by
        by_cases q:a=t
        . subst q;exact .inr ⟨qa3,h2⟩
        . rw[qa5 q];exact .inl (R.newO ha)) (λa o ho ha=>hk a o ha ho)
    exact ⟨_,R',e',(λt' q=>by obtain rfl:=Sj q;exact qa3),λa ha=>by rw[qa5 (hnot t rfl a ha)];exact (hP a ha).own⟩
theorem qsv (hP:∀a∈ws,Priv W g s.heap a)(S:ai.St W g' h' ws it i)(ho:∀a∈ws,g' a=.other):∀a∈ws,Priv W g' h' a:=λa ha=>
  ⟨ho a ha,(hP a ha).new,S.objs ai a ha⟩
theorem qnf (hO:Lv σ v l)(R:Rep W fr g σ s)(rv:RV W g s.heap v (.ref la)){r:Ht}(p:Priv W g s.heap r):la≠r:=λq=>by
  refine qa1 (hO.at R rv) ?_;intro a vs n ha _ _ hf;cases ha;subst q
  rcases hf with q | ⟨n,q⟩ <;> rw[p.own] at q <;> cases q
theorem qpb {X:Ht->Prop}(e:Evo W X Y g s.heap g' h')(hX:∀a,X a->Priv W g s.heap a)(rv:RV W g s.heap v (.ref la)):RV W g' h' v (.ref la):=
  rv.mono e (Priv.xok hX) v (.inl λa q=>(hX a q).own) _
theorem qk8 {z TI TO i1 i2 l1 l2:Ht}(h:[z,TI,TO,i1,i2].Nodup)(h1:∀c∈[z,TI,TO,i1,i2],l1≠c)(h2:∀c∈[z,TI,TO,i1,i2],l2≠c):ZipApart z TI TO i1 i2 l1 l2:=by
  simp at h;refine qrk (h) ?_;intro ne_9_0 ne_9_1 ne_9_2 d1;refine qrk ne_9_0 ?_;intro a1 a2 a3 a4;refine qgb ne_9_1 ?_;intro b1 b2 b3;refine AC ?_ ne_9_2;intro c1 c2;exact ⟨B5 a1,B5 a2,B5 a3,B5 a4,b1,b2,b3,c1,c2,d1,h1 _ (by simp),h1 _ (by simp),h1 _ (by simp),h1 _ (by simp),h2 _ (by simp),h2 _ (by simp),h2 _ (by simp),h2 _ (by simp)⟩
theorem qj4 {vs:Array Hw}(r:RVs W g h l vs.toList)(hy:l[i]?=ER y):∃w,vs[i]?=ER w/\RV W g h y w:=by
  refine qa4 (r.getA hy) ?_;intro w hw rw';exact ⟨w,by rw[<- BB];exact hw,rw'⟩
theorem qnh (hO:Lv σ v l)(R:Rep W fr g σ s)(rv:RV W g s.heap v (.ref la))(hy:l[i]?=ER y):∃vs w,s.heap.IsList la vs/\vs[i]?=ER w/\RV W g s.heap y w:=by
  refine qa1 (hO.at R rv) ?_;intro a vs n ha ho hr _;refine qa4 (qj4 hr hy) ?_;intro w hw rw';exact ⟨vs,w,Value.ref.inj ha ▸ qah ho,hw,rw'⟩
theorem qng (hO:Lv σ v l)(R:Rep W fr g σ s)(rv:RV W g s.heap v (.ref la)):∃vs,s.heap.IsList la vs/\vs.size=l.length:=by
  refine qa1 (hO.at R rv) ?_;intro a vs n ha ho hr _;exact ⟨vs,Value.ref.inj ha ▸ qah ho,Az.symm.trans hr.length⟩
theorem qq8 (p:Priv W g s.heap a):s.heap.objs.size≠a:=λq=>by
  refine qa4 p.obj ?_;intro o ho _;rw[<- q,qag] at ho;cases ho
theorem qsl {x:AV}(h:(AIt.enum x l).items[i]?=ER v):∃y,l[i]?=ER y/\v=.tup [.int (i:Nat),y]:=by
  refine qa4 (Option.map_eq_some_iff.mp (Ao.symm.trans h)) ?_;intro p hp e;subst e;refine qa4 (Option.map_eq_some_iff.mp (Fk.symm.trans hp)) ?_;intro y hy e;subst e;exact ⟨y,hy,by rw[GE]⟩
theorem qsy {x x':AV}(h:(AIt.zip x l x' l').items[i]?=ER v):∃y y',l[i]?=ER y/\l'[i]?=ER y'/\v=.tup [y,y']:=by
  refine qa2 (List.getElem?_zipWith_eq_some.mp h) ?_;intro y y' h1 h2 e;exact ⟨y,y',h1,h2,e.symm⟩
theorem Ica {w:Hw}(R:Rep W fr g σ s)(hP:∀a∈ws,Priv W g s.heap a)(hQ:∀v' g' s',Rep W fr g' σ s'->Evo W (·∈ws) noY g s.heap g' s'.heap->ai.St W g' s'.heap ws it (i+1)->(∀a∈ws,Priv W g' s'.heap a)->RV W g' s'.heap v v'->Q v' s')(T:Option Ht)(hT:∀t,T=ER t->s.heap.get? t=Dt/\∃o,h'.get? t=ER o)(hk:∀b o,b∉ws->s.heap.get? b=ER o->h'.get? b=ER o)(q:∀g',Evo W (·∈ws) noY g s.heap g' h'->(∀t,T=ER t->g' t=.fz)->ai.St W g' h' ws it (i+1)/\RV W g' h' v w):Q w { s with heap:=h',toks:=tk }:=by
  refine qbl (Icw (ai:=ai) R hP tk T hT hk) ?_;intro g' R' e' hTf ho';exact AC (λS' r=>hQ w g' _ R' e' S' (qsv hP S' ho') r) (q g' e' hTf)
theorem qmq {w:Hw}(hP:∀a∈ws,Priv W g s.heap a)(e:Evo W (·∈ws) noY g s.heap g' h')(r:RV W g s.heap y w):RV W g' h' y w:=
  r.mono e (Priv.xok hP) y (.inl λa q=>(hP a q).own) _
theorem zk {z TI TO i1 i2 b:Ht}{P:Prop}(hb:b∉[z,TI,TO,i1,i2])(h:b≠z->b≠TO->b≠i1->b≠i2->P):P:=
  h (λq=>hb (q ▸ Ac)) (λq=>hb (q ▸ .tail _ (.tail _ Ac))) (λq=>hb (q ▸ .tail _ (.tail _ (.tail _ Ac)))) (λq=>hb (q ▸ .tail _ (.tail _ (.tail _ (.tail _ Ac)))))
theorem qm5 {r:Ht}(hO:Lv σ v l\/v=.tup l)(R:Rep W fr g σ s)(rv:RV W g s.heap v (.ref la))(hI:ItL s.heap v r la i):∃vs,Drw W.prog W.w s.heap v r la i vs/\RVs W g s.heap l vs.toList/\∀{c},Priv W g s.heap c->la≠c:=by
  rcases hO with hO | rfl
  . refine qa1 (hO.at R rv) ?_;intro a vs n ha ho hr _;obtain rfl:=Value.ref.inj ha;have hv:isT v=Hr:=by
      rcases hO with rfl | ⟨_,rfl,_⟩
      . rfl
      . rfl
    refine ⟨vs,hI.elim (λq=>absurd (q.1.symm.trans hv) (by decide)) λq=>qso hv q.2 (qah ho),hr,λp=>qnf hO R rv p⟩
  . refine qa1 (rv) ?_;intro a vs n ha hg ho;intro hr;obtain rfl:=Value.ref.inj ha;exact ⟨vs,hI.elim (λq=>qsn rfl q.2 ⟨_,ho,rfl,_,rfl⟩) λq=>CB (show Hq=Hr from q.1),hr,λp q=>by rw[q,p.own] at hg;cases hg⟩
theorem AIt.step (hO:ai.Ok σ)(rm:Room k fr A)(R:Rep W fr g σ s)(S:ai.St W g s.heap ws it i)(hP:∀a∈ws,Priv W g s.heap a)(hv:ai.items[i]?=ER v)(ht:ai.pairs=Hq->∃elts n p,t=.Tuple elts n p)(hQ:∀v' g' s',Rep W fr g' σ s'->Evo W (·∈ws) noY g s.heap g' s'.heap->ai.St W g' s'.heap ws it (i+1)->(∀a∈ws,Priv W g' s'.heap a)->RV W g' s'.heap v v'->Q v' s'):
    Hs (Hu W.prog W.w) A (pyNext it) (λr s1a=>∃v',r=ER v'/\Hs (Hu W.prog W.w) A (Et t it v') (λ_ s2=>Q v' s2) E s1a) E s:=by
  cases ai with
  | seq x l=>
    refine qaz (S) ?_;intro r la eq_10_2 eq_10_3 h3 h4;subst eq_10_2;subst eq_10_3;refine qa2 (qnh (hO:Lv σ x l) R h3 hv) ?_;intro vs w ho hw rw';refine (Walks.list rm.handled r la (qnf hO R h3 (hP r Ac)) vs).item i s _ _ (Cm.mp hw).1 ⟨h4,ho⟩ λu h' tk hu hs' hk=>?_
    obtain rfl:=Sj (hw.symm.trans hu);refine qaj (id hs'.1) ?_;intro o ho' hc' hd';exact ⟨w,rfl,qd0 ho' hc' hd' (by decide) (Ica (s:=s) (ai:=.seq x l) R hP hQ Dt (λ_ q=>nomatch q) hk λg' e' _=>⟨⟨r,la,rfl,rfl,qpb e' hP h3,hs'.1⟩,qmq hP e' rw'⟩)⟩
  | tup l=>
    refine qar (S) ?_;intro r la vs n eq_15_4 eq_15_5 h3 h4 h5 h6;subst eq_15_4;subst eq_15_5;have hne:la≠r:=λq=>by rw[q,(hP r Ac).own] at h3;cases h3
    have hne':la∉[r]:=λq=>hne (AE.mp q)
    refine qa4 (qj4 h5 hv) ?_;intro w hw rw';refine (Walks.tuple rm.handled r la hne vs).item i s _ _ (Cm.mp hw).1 ⟨h6,⟨_,h4,rfl,n,rfl⟩⟩ λu h' tk hu hs' hk=>?_
    obtain rfl:=Sj (hw.symm.trans hu);refine qaj (id hs'.1) ?_;intro o ho' hc' hd';exact ⟨w,rfl,qd0 ho' hc' hd' (by decide) (Ica (s:=s) (ai:=.tup l) R hP hQ Dt (λ_ q=>nomatch q) hk λg' e' _=>⟨⟨r,la,vs,n,rfl,rfl,e'.fz la h3 hne',hk la _ hne' h4,h5.mono e' (Priv.xok hP) l (.inl λa q=>(hP a q).own) _,hs'.1⟩,qmq hP e' rw'⟩)⟩
  | range a c n=>
    refine qaj (S) ?_;intro r eq_19_1 eq_19_2 h3;subst eq_19_1;subst eq_19_2;refine qa4 (Option.map_eq_some_iff.mp (Ao.symm.trans hv)) ?_;intro j hj eq_1;subst eq_1;refine Ap (Ar.mp hj) ?_;intro hi hj';rw[List.getElem_range] at hj';subst hj';rw[AW] at hi;refine (Walks.range rm.handled r a c n).item i s _ _ hi h3 λu h' tk hu hs' hk=>?_
    refine Ap hu ?_;intro tt eq_0_1;subst eq_0_1;exact ⟨_,rfl,qd0 (n := "range_iterator") hs' rfl rfl (by decide) (Ica (s:=s) (ai:=.range a c n) R hP hQ Dt (λ_ q=>nomatch q) hk λg' e' _=>⟨⟨r,rfl,rfl,hs'⟩,tt,rfl⟩)⟩
  | enum x l=>
    refine qn5 (ht rfl) ?_;intro elts n' p' eq_22_3;subst eq_22_3;refine qb1 (S) ?_;intro e r la eq_23_3 eq_23_4 h3 h4 h5 h6;subst eq_23_3;subst eq_23_4;refine qa4 (qsl hv) ?_;intro y hy eq_25_2;subst eq_25_2;refine qa2 (qnh (hO:Lv σ x l) R h4 hy) ?_;intro vs w ho hw rw';refine Ap h5 ?_;intro old h5;refine wpAny_pyNext_enum_item h5 h6 ho hw h3 λh' hm hit' hT hsz hk=>?_
    refine ⟨_,rfl,wpAny_letOwnedTupleGo_enum hm λh'' he' hs'=>?_⟩;have hT':=(hs'.2 _ (qq8 (hP e Ac))).trans hT;exact Ica (s:=s) (ai:=.enum x l) R hP hQ (ER s.heap.objs.size) (λt q=>Sj q ▸ ⟨qag _,_,hT'⟩) (h':=h'') (λb o hb q=>(hs'.2 b (λq=>hb (q ▸ Ac))).trans (hk b o (λq=>hb (q ▸ Ac)) (λq=>hb (q ▸ .tail _ Ac)) q))
      λg' e' hTf=>⟨⟨e,r,la,rfl,rfl,h3,qpb e' hP h4,⟨_,he'⟩,hit'.at λo q=>(hs'.2 r h3.symm).trans q⟩,⟨_,_,_,rfl,hTf _ rfl,hT',_,_,rfl,⟨_,rfl⟩,_,_,rfl,qmq hP e' rw',rfl⟩⟩
  | zip v1 l1 v2 l2=>
    refine qn5 (ht rfl) ?_;intro elts n' p' eq_30_3;subst eq_30_3;refine qau (S) ?_;intro z TI TO i1 i2 la lb eq_31_7 eq_31_8 h3 h4 h5 h6 h7 ne_31_14 h9 h10;subst eq_31_7;subst eq_31_8;refine qkm ne_31_14 ?_;intro a1a b1 h8;have O:=(hO:(Lv σ v1 l1\/v1=.tup l1)/\Lv σ v2 l2)
    obtain ⟨vs,hd,rvs,nla⟩:=qm5 O.1 R h4 h9;have D:=qk8 h3 (λc hc=>nla (hP c hc)) λc hc=>qnf O.2 R h5 (hP c hc)
    refine qa2 (qsy hv) ?_;intro y y' hy hy' eq_34_4;subst eq_34_4;refine qa4 (qj4 rvs hy) ?_;intro w hw rw';refine qa2 (qnh O.2 R h5 hy') ?_;intro us w2 ho2 hw2 rw2;refine qk6 D rm.handled h6 h7 h8 hd h10 ho2 (λxx yy hxx hyy h' a1 a2 a3 a4 a5 hk=>?_) λq=>absurd q (by rw[hw,hw2];rintro (q | q) <;> cases q)
    obtain rfl:=Sj (hw.symm.trans hxx);obtain rfl:=Sj (hw2.symm.trans hyy);refine ⟨_,rfl,wpAny_letOwnedTupleGo_zip a1 λh'' hz' hs'=>?_⟩;have hT':=(hs'.2 _ (qq8 (hP z Ac))).trans a5;exact Ica (s:=s) (ai:=.zip v1 l1 v2 l2) R hP hQ (ER s.heap.objs.size) (λt q=>Sj q ▸ ⟨qag _,_,hT'⟩) (h':=h'') (λb o hb q=>(hs'.2 b (λq=>hb (q ▸ Ac))).trans (zk hb (hk b o) q))
      λg' e' hTf=>⟨⟨z,TI,TO,i1,i2,la,lb,rfl,rfl,h3,qpb e' hP h4,qpb e' hP h5,hz',(hs'.2 _ D.TIz).trans (hk _ _ D.TIz D.TITO D.TIi1 D.TIi2 h7),
      ⟨_,_,(hs'.2 _ D.TOz).trans a2⟩,a3.at λo q=>(hs'.2 _ D.i1z).trans q,a4.at λo q=>(hs'.2 _ D.i2z).trans q⟩,⟨_,_,_,rfl,hTf _ rfl,hT',_,_,rfl,qmq hP e' rw',_,_,rfl,qmq hP e' rw2,rfl⟩⟩
theorem Icn (hO:ai.Ok σ)(rm:Room k fr A)(R:Rep W fr g σ s)(S:ai.St W g s.heap ws it i)(hP:∀a∈ws,Priv W g s.heap a)(hv:ai.items.length=i){Q:Option Hw->Ab->Prop}(hQ:∀g' s',Rep W fr g' σ s'->Evo W (·∈ws) noY g s.heap g' s'.heap->Q Dt s'):
    Hs (Hu W.prog W.w) A (pyNext it) Q E s:=by
  have fin:∀h' tk,(∀b o,b∉ws->s.heap.get? b=ER o->h'.get? b=ER o)->Q Dt { s with heap:=h',toks:=tk }:=λh' tk hk=>by
    refine qbl (Icw (ai:=ai) R hP tk Dt (λ_ q=>nomatch q) hk) ?_;intro g' R' e' _ ho';exact hQ g' _ R' e'
  cases ai with
  | seq x l=>
    refine qaz (S) ?_;intro r la eq_40_2 eq_40_3 h3 h4;subst eq_40_2;subst eq_40_3;refine qa4 (qng (hO:Lv σ x l) R h3) ?_;intro vs ho hl;exact (Walks.list rm.handled r la (qnf hO R h3 (hP r Ac)) vs).done s _ _ ⟨hl.trans hv ▸ h4,ho⟩ fin
  | tup l=>
    refine qar (S) ?_;intro r la vs n eq_42_4 eq_42_5 h3 h4 h5 h6;subst eq_42_4;subst eq_42_5;have hne:la≠r:=λq=>by rw[q,(hP r Ac).own] at h3;cases h3
    exact (Walks.tuple rm.handled r la hne vs).done s _ _ ⟨(Az.symm.trans h5.length).trans hv ▸ h6,⟨_,h4,rfl,n,rfl⟩⟩ fin
  | range a c n=>
    refine qaj (S) ?_;intro r eq_43_1 eq_43_2 h3;subst eq_43_1;subst eq_43_2;obtain rfl:n=i:=((Ah _).trans AW).symm.trans hv;exact (Walks.range rm.handled r a c n).done s _ _ h3 fin
  | enum x l=>
    refine qb1 (S) ?_;intro e r la eq_44_3 eq_44_4 h3 h4 ne_44_7 h6;subst eq_44_3;subst eq_44_4;refine Ap ne_44_7 ?_;intro old h5;refine qa4 (qng (hO:Lv σ x l) R h4) ?_;intro vs ho hl;have hi:vs.size<=i:=Bn (hl.trans (((Ah _).trans List.length_zipIdx).symm.trans hv));exact wpAny_pyNext_enum_end rm.handled h5 h6 ho (Array.getElem?_eq_none hi) λh' he=>fin h' s.toks λb o hb q=>he b o (λq=>hb (q ▸ .tail _ Ac)) q
  | zip v1 l1 v2 l2=>
    refine qau (S) ?_;intro z TI TO i1 i2 la lb eq_46_7 eq_46_8 h3 h4 h5 h6 h7 ne_46_14 h9 h10;subst eq_46_7;subst eq_46_8;refine qkm ne_46_14 ?_;intro a1a b1 h8;have O:=(hO:(Lv σ v1 l1\/v1=.tup l1)/\Lv σ v2 l2)
    obtain ⟨vs,hd,rvs,nla⟩:=qm5 O.1 R h4 h9;have D:=qk8 h3 (λc hc=>nla (hP c hc)) λc hc=>qnf O.2 R h5 (hP c hc)
    have e1:vs.size=l1.length:=Az.symm.trans rvs.length;refine qa4 (qng O.2 R h5) ?_;intro us ho2 e2;have hi:min l1.length l2.length=i:=List.length_zipWith.symm.trans hv;refine qk6 D rm.handled h6 h7 h8 hd h10 ho2 (λx y hx hy=>absurd hi ?_) λ_ h' hk=>fin h' s.toks λb o hb q=>zk hb (hk b o) q
    have q1:=(Cm.mp hx).1;have q2:=(Cm.mp hy).1;rw[e1] at q1;rw[e2] at q2;exact CF (Nat.lt_min.mpr ⟨q1,q2⟩)
theorem Idc (S:ai.St W g s.heap ws it i)(hQ:Q it s):Hs (Hu W.prog W.w) A (Hg it) Q E s:=by
  cases ai with
  | seq x l=>refine qaz (S) ?_;intro r la eq_49_2 eq_49_3 h3 h4;subst eq_49_2;subst eq_49_3;exact wpAny_pyIter_listiter h4 hQ
  | tup l=>refine qar (S) ?_;intro r la vs n eq_50_4 eq_50_5 h3 h4 h5 h6;subst eq_50_4;subst eq_50_5;exact wpAny_pyIter_tupleiter h6 hQ
  | range a c n=>refine qaj (S) ?_;intro r eq_51_1 eq_51_2 h3;subst eq_51_1;subst eq_51_2;exact wpAny_pyIter_rangeiter h3 hQ
  | enum x l=>refine qb1 (S) ?_;intro e r la eq_52_3 eq_52_4 h3 h4 ne_52_7 h6;subst eq_52_3;subst eq_52_4;refine Ap ne_52_7 ?_;intro old h5;exact wpAny_pyIter_enum h5 hQ
  | zip v1 l1 v2 l2=>refine qft (S) ?_;intro z TI TO i1 i2 la lb eq_53_7 eq_53_8 h3 h4 h5 h6 _;subst eq_53_7;subst eq_53_8;exact Gu h6 hQ
end
end
section
theorem qbe {s:Ab}{target:Expr}(turn:Hs (Hu prog w) A (pyNext it) (λr s1a=>match r with
      | none=>Hs (Hu prog w) A (execs orelse env) (λf s3=>R (.ok f) s3) (DZ (Hu prog w) A env λe s'=>R (.error e) s') s1a
      | some v=>Hs (Hu prog w) A (Et target it v) (λ_ s1'=>
          Hs (Hu prog w) A (assign target env v) (λ_ s2=>Hs (Hu prog w) A (execs body env) (λf s3=>match f with
            | .next | .cont=>Cn (Hu prog w) A (.forLoop target it body orelse env) R s3
            | .brk=>R (.ok .next) s3
            | .ret v=>R (.ok (.ret v)) s3) (DZ (Hu prog w) A env λe s'=>R (.error e) s') s2) (DZ (Hu prog w) A env λe s'=>R (.error e) s') s1') (DZ (Hu prog w) A env λe s'=>R (.error e) s') s1a) (DZ (Hu prog w) A env λe s'=>R (.error e) s') s):
    Cn (Hu prog w) A (.forLoop target it body orelse env) R s:=by
  refine DO ?_;show Hs _ A ((forTurn target it body orelse env).onRaise (λx=>do Ha x env;GO x)) _ _ s;refine wpAny_noted ?_;simp only[forTurn];refine Aa (AS (Aa (Ds (AD turn (λr s1a h1a=>?_) λ_ _ h'=>AS h'))));cases r with
  | none=>exact Ad ⟨rfl,codeAny_block h1a⟩
  | some v=>
    refine Aa (AD h1a (λ_ s1' h1'=>?_) λ_ _ h'=>h');refine Aa (AD h1' (λ_ s2 h2a=>Aa (AD h2a (λf s3 h3=>?_) λ_ _ h'=>h')) λ_ _ h'=>h');cases f with
    | next=>exact Ad ⟨rfl,h3⟩
    | cont=>exact Ad ⟨rfl,h3⟩
    | brk=>exact Ad h3
    | ret v=>exact Ad h3
def ItE (C:Cx) (k:Nat) (fr:List HA) (m:List (Option AV)) (σ:List AObj) (e:Expr) (ai:AIt) (z':List AObj):Prop:=
  ∀(A:BJ) (env:HA) (g:Ht->Own) (s:Ab),Room k fr A->Rep C.W fr g σ s->Fra C env m g s.heap->∀(Q:Hw->Ab->Prop) (E:Hw->Ab->Prop),
    (∀it g' s' ws,Rep C.W fr g' z' s'->Evo C.W noX C.Y g s.heap g' s'.heap->ai.St C.W g' s'.heap ws it 0->(∀a∈ws,Priv C.W g' s'.heap a)->(∀a∈ws,s.heap.get? a=Dt)->Q it s') ->
    Hs (Hu C.W.prog C.W.w) A (eval e env) (λx s1a=>Hs (Hu C.W.prog C.W.w) A (Hg x) Q E s1a) E s
def CallIt (W:Wd) (Y:Nat->Prop) (k:Nat) (fr:List HA) (σ:List AObj) (f:AV) (args:List AV) (ai:AIt) (z':List AObj):Prop:=
  ∀(A:BJ) (g:Ht->Own) (s:Ab) (vf:Hw) (vs:List Hw),Room k fr A->Rep W fr g σ s->RV W g s.heap f vf->RVs W g s.heap args vs->∀(Q:Hw->Ab->Prop) (E:Hw->Ab->Prop),
    (∀it g' s' ws,Rep W fr g' z' s'->Evo W noX Y g s.heap g' s'.heap->ai.St W g' s'.heap ws it 0->(∀a∈ws,Priv W g' s'.heap a)->(∀a∈ws,s.heap.get? a=Dt)->Q it s') ->
    Hs (Hu W.prog W.w) A (call vf vs []) (λx s1a=>Hs (Hu W.prog W.w) A (Hg x) Q E s1a) E s
section
theorem qdl {f:AV}{first:List AV}{kws:List G8}(hf:Kept C.W f)(ha:Evs C k fr m σ es args z1)(hk:EvK C k fr m z1 kws kn kv z2)(hpl:∀env p,(Ft p (CV es env)).any (·.1)=Hr){s:Ab}{vf:Hw}{fs:List Hw}(rm:Room k fr A)(R:Rep C.W fr g σ s)(F:Fra C env m g s.heap)(rf:RV C.W g s.heap f vf)(rs:RVs C.W g s.heap first fs)(hQ:∀g' s' vs ks,Rep C.W fr g' z2 s'->Evo C.W noX C.Y g s.heap g' s'.heap->RV C.W g' s'.heap f vf->RVs C.W g' s'.heap (first++args) vs->RVs C.W g' s'.heap kv ks ->
      Hs (Hu C.W.prog C.W.w) A (call vf vs (kn.zip ks)) Q E s'):
    Hs (Hu C.W.prog C.W.w) A (callWith p vf fs (Ft p' (CV es env)) (FO p' (Dm kws env))) Q E s:=by
  refine AC ?_ (hk.names env p');intro hn hal;refine G0 (P:=λh=>∃kp,(kp=FF\/kp=ES\/kp=DX)/\Looks (Hu C.W.prog C.W.w) h (Hj vf) kp) ?_ (λh q=>q) ?_
  . rw[hpl];simp only[Fc,List.any_eq_false];intro q hq;have:=BP.mp hal q hq;cases hq1:q.1 <;> simp_all
  . refine qd2 (hpl _ _) hal (ha A env g s p' rm R F _ _ λvs g1 s1a R1 e1a rv=>hk.run A env g1 s1a p' rm R1 (F.up e1a) _ _ λks g2 s2 R2 e2a rk=>?_);rw[hn];refine ⟨hf fr g2 z2 s2 vf R2 ((rf.up e1a).up e2a),?_⟩;exact hQ g2 s2 (fs++vs) ks R2 (e1a.trans e2a) ((rf.up e1a).up e2a) (((rs.up e1a).up e2a).append (rv.up e2a)) rk
theorem ItE.call {f:AV}(hn:Ev C k fr m σ (.Name x q) f z1)(hf:Kept C.W f)(ha:Evs C k fr m z1 es args z2)(hc:CallIt C.W C.Y k fr z2 f args ai z')(hpl:autoParam (∀env p,(Ft p (CV es env)).any (·.1)=Hr) ap0._auto_1):ItE C k fr m σ (.Call (.Name x q) es [] p) ai z':=λA env g s rm R F Q E hQ=>by
  refine C6 (hn A env g s rm R F _ _ λvf g1 s1a R1 e1a rf=>?_);refine qdl (first:=[]) hf ha EvK.nil hpl rm R1 (F.up e1a) rf rfl λg2 s2 vs ks R2 e2a rf rv rk=>?_
  obtain rfl:ks=[]:=rk;exact hc A g2 s2 vf vs rm R2 rf rv Q E λit g3 s3 ws R3 e3a S hP hfr=>hQ it g3 s3 ws R3 ((e1a.trans e2a).trans e3a) S hP λa ha=>Iaw R (e1a.trans e2a) R2 (hfr a ha)
theorem Rep.newPriv {s:Ab}(R:Rep W fr g σ s)(o:Obj)(hf:o.isFreed=Hr)(hN:Nd o):
    Rep W fr g σ { s with heap:=s.heap.push o }/\Evo W noX noY g s.heap g (s.heap.push o)/\Priv W g (s.heap.push o) s.heap.objs.size:=by
  have htop:=R.top;refine AC ?_ (R.push o .other hf (.inr rfl));intro R1 e1a;have hgo:qbw g s.heap.objs.size .other=g:=by
    funext a
    by_cases ha:a=s.heap.objs.size
    . subst ha;rw[qa3,htop]
    . exact qa5 ha
  rw[hgo] at R1 e1a;exact ⟨R1,e1a,htop,R.new1 (qag _),o,Al _ hf,hN⟩
theorem ItE.list (he:Ev C k fr m σ e v z')(hL:Lv z' v l):ItE C k fr m σ e (.seq v l) z':=λA env g s rm R F Q E hQ=>by
  refine he A env g s rm R F _ _ λva g1 s1a R1 e1a ra=>?_
  refine qa1 (hL.at R1 ra) ?_;intro a vs n eq_2_3 ho hr _;subst eq_2_3;refine Gc (qah ho) ?_;refine qgb (R1.newPriv { cls:=.type "list_iterator",data:=.fields #[.ref a,.int 0 0] } rfl (ndf rfl rfl rfl)) ?_;intro R2 e2a p2;refine hQ _ _ _ [s1a.heap.objs.size] R2 (e1a.trans e2a.no) ⟨_,a,rfl,rfl,ra.up e2a,_,Al _ rfl,rfl,rfl⟩ (λb hb=>by simp at hb;subst hb;exact p2) λb hb=>?_
  simp at hb;subst hb;exact Iaw R e1a R1 (qag _)
theorem ItE.tuple (he:Ev C k fr m σ e (.tup l) z'):ItE C k fr m σ e (.tup l) z':=λA env g s rm R F Q E hQ=>by
  refine he A env g s rm R F _ _ λva g1 s1a R1 e1a ra=>?_
  refine qa1 (ra) ?_;intro a vs n eq_4_3 hg ho hr;subst eq_4_3;refine wpAny_pyIter_tuple ⟨_,ho,rfl,n,rfl⟩ ?_;refine qgb (R1.newPriv { cls:=.type "tuple_iterator",data:=.fields #[.ref a,.int 0 0] } rfl (ndf rfl rfl rfl)) ?_;intro R2 e2a p2;refine hQ _ _ _ [s1a.heap.objs.size] R2 (e1a.trans e2a.no) ⟨_,a,vs,n,rfl,rfl,e2a.fz a hg (λq=>q),Am _ ho,hr.up e2a,_,Al _ rfl,rfl,rfl⟩ (λb hb=>by simp at hb;subst hb;exact p2) λb hb=>?_
  simp at hb;subst hb;exact Iaw R e1a R1 (qag _)
theorem qki {s:Ab}{r:Ht}{a b:Int}{t u v:Tok}(R:Rep W fr g σ s)(hr:IsRange s.heap r a b 1 t u v)(h:-(2 ^ 62)<=a/\a<2 ^ 62/\-(2 ^ 62)<=b/\b<2 ^ 62)(hQ:∀it g' s' ws,Rep W fr g' σ s'->Evo W noX noY g s.heap g' s'.heap->(AIt.range a 1 (b - a).toNat).St W g' s'.heap ws it 0->(∀a∈ws,Priv W g' s'.heap a)->(∀a∈ws,s.heap.get? a=Dt)->Q it s'):Hs (Hu W.prog W.w) A (Hg (.ref r)) Q E s:=by
  refine wpAny_pyIter_range hr (small_one h.1 h.2.1 h.2.2.1 h.2.2.2) ?_;refine qgb (R.newPriv { cls:=.type "range_iterator",data:=.fields #[C7 a,C7 (CN a b 1),C7 1] } rfl (ndf rfl rfl rfl)) ?_;intro R2 e2a p2;have hz:CN a b 1=(((b - a).toNat:Nat):Int) - (0:Nat):=by rw[rangeSize_one];split <;> grind
  have ho:(s.heap.push { cls:=.type "range_iterator",data:=.fields #[C7 a,C7 (CN a b 1),C7 1] }).get? s.heap.objs.size=ER { cls:=.type "range_iterator",data:=.fields #[C7 a,C7 (CN a b 1),C7 1] }:=Al _ rfl;refine hQ _ _ _ [s.heap.objs.size] R2 e2a ⟨s.heap.objs.size,rfl,rfl,?_⟩ (λc hc=>by rw[AE] at hc;rw[hc];exact p2) λc hc=>by rw[AE] at hc;rw[hc];exact qag _
  rw[<- hz,show a+((0:Nat):Int)*1=a by simp];exact ho
theorem Icl {a b:Int}(h:-(2 ^ 62)<=a/\a<2 ^ 62/\-(2 ^ 62)<=b/\b<2 ^ 62):CallIt W Y k fr σ (.glob (.type "range")) [.int a,.int b] (.range a 1 (b - a).toNat) σ:=λA g s vf vs rm R rf rv Q E hQ=>by
  obtain rfl:vf=.type "range":=rf;refine qa2 (rv) ?_;intro v1 q1 eq_7_2 ne_7_3 r1;subst eq_7_2;obtain ⟨t1,rfl⟩:=ne_7_3;refine qa2 (r1) ?_;intro v2 q2 eq_8_2 ne_8_3 r2;subst eq_8_2;obtain ⟨t2,rfl⟩:=ne_8_3;obtain rfl:q2=[]:=r2;refine call_range_2 ?_;refine qgb (R.newPriv { cls:=.type "range",data:=.fields #[.int a t1,.int b t2,.int 1 s.toks] } rfl (ndf rfl rfl rfl)) ?_;intro R1 e1a p1;exact qki (R1.tok (s.toks+1)) (IsRange.new ..) h λit g' s' ws R' e' S hP hf=>hQ it g' s' ws R' (e1a.trans e').no S hP λc hc=>Iaw R e1a R1 (hf c hc)
theorem Iaz {b:Int}(h:-(2 ^ 62)<=b/\b<2 ^ 62):CallIt W Y k fr σ (.glob (.type "range")) [.int b] (.range 0 1 b.toNat) σ:=λA g s vf vs rm R rf rv Q E hQ=>by
  obtain rfl:vf=.type "range":=rf;refine qa2 (rv) ?_;intro v2 q2 eq_10_2 ne_10_3 r2;subst eq_10_2;obtain ⟨t2,rfl⟩:=ne_10_3;obtain rfl:q2=[]:=r2;refine call_range_1 ?_;refine qgb (R.newPriv { cls:=.type "range",data:=.fields #[.int 0 s.toks,.int b t2,.int 1 (s.toks+1)] } rfl (ndf rfl rfl rfl)) ?_;intro R1 e1a p1;refine qki (R1.tok (s.toks+1+1)) (IsRange.new ..) ⟨by decide,by decide,h.1,h.2⟩ λit g' s' ws R' e' S hP hf=>hQ it g' s' ws R' (e1a.trans e').no ?_ hP λc hc=>Iaw R e1a R1 (hf c hc)
  rw[Int.sub_zero] at S;exact S
theorem Rep.keepsAll {s:Ab}(R:Rep W fr g σ s)(hk:∀a o,s.heap.get? a=ER o->h'.get? a=ER o):Rep W fr g σ { s with heap:=h' }/\Evo W noX noY g s.heap g h':=R.keeps s.toks hk
theorem CallIt.enum (hL:Lv σ v l):CallIt W Y k fr σ (.glob (.type "enumerate")) [v] (.enum v l) σ:=λA g s vf vs rm R rf rv Q E hQ=>by
  obtain rfl:vf=.type "enumerate":=rf;refine qa2 (rv) ?_;intro v2 q2 eq_12_2 ra r2;subst eq_12_2;obtain rfl:q2=[]:=r2;refine qa1 (hL.at R ra) ?_;intro a us n eq_13_3 ho hr _;subst eq_13_3;refine call_enumerate_1 ho λh' he hit hsz hk=>?_
  refine wpAny_pyIter_enum he ?_;refine AC ?_ (R.keepsAll hk);intro R1 e1a;have n0:s.heap.get? s.heap.objs.size=Dt:=qag _;have n1:s.heap.get? (s.heap.objs.size+1)=Dt:=BW (Dn _);refine hQ _ g _ [s.heap.objs.size+1,s.heap.objs.size] R1 e1a.no ⟨_,_,a,rfl,rfl,Nat.succ_ne_self _,ra.up e1a,⟨_,he⟩,hit⟩ (λb hb=>?_) λb hb=>?_
  . simp at hb;rcases hb with rfl | rfl
    . exact ⟨R.newO n1,R.new1 n1,_,he,ndf rfl rfl rfl⟩
    . refine qaj (hit) ?_;intro o h1 h2 h3;exact ⟨R.newO n0,R.new1 n0,o,h1,ndf h3 h2 rfl⟩
  . simp at hb;rcases hb with rfl | rfl
    . exact n1
    . exact n0
noncomputable abbrev zpA (h:Heap) (t:Ht):Heap:=h.push { cls:=.type "tuple_iterator",data:=.fields #[.ref t,.int 0 0] }
noncomputable abbrev zpB (h:Heap) (t l:Ht):Heap:=(zpA h t).push { cls:=.type "list_iterator",data:=.fields #[.ref l,.int 0 0] }
noncomputable abbrev zpC (h:Heap) (t l:Ht):Heap:=(zpB h t l).push { cls:=.type "tuple",data:=.seq #[.ref h.objs.size,.ref (zpA h t).objs.size] }
noncomputable abbrev zpD (h:Heap) (t l:Ht):Heap:=(zpC h t l).push { cls:=.type "tuple",data:=.seq #[.none,.none] }
noncomputable abbrev zpE (h:Heap) (t l:Ht):Heap:=(zpD h t l).push { cls:=.type "zip",data:=.fields #[.none,.bool Hr,.bool Hr,.ref (zpB h t l).objs.size,.ref (zpC h t l).objs.size] }
theorem qp9 (t l:Ht)(xs ys:Array Hw):Meets (Ax.«zip.__new__» ⟨[.type "zip",.ref t,.ref l],[]⟩) (λ_ R s=>s.heap.IsTuple t xs/\s.heap.IsList l ys/\R (.ok (.ret (.ref (zpD s.heap t l).objs.size))) { s with heap:=zpE s.heap t l }):=
  .of_wp λprog w A R s h=>by
    obtain ⟨hp,g,d,tk,os⟩:=s;obtain ⟨h1,h2,h⟩:=h;have hsub:=sub_zip;have H1:Heap.IsTuple (Ab.heap ⟨hp,g,d,tk,os⟩) t xs:=h1;have H2:Heap.IsList (Ab.heap ⟨hp.push { cls:=.type "tuple_iterator",data:=.fields #[.ref t,.int 0 0] },g,d,tk,os⟩) l ys:=Heap.IsList.push h2 _
    wp_walk using wpAny_pyIter_tuple H1, Gc H2
    exact ⟨_,rfl,h⟩
theorem qsr {s:Ab}{t l:Ht}{xs ys:Array Hw}(h1:s.heap.IsTuple t xs)(h2:s.heap.IsList l ys)(h:Q (.ref (zpD s.heap t l).objs.size) { s with heap:=zpE s.heap t l }):Hs (Hu prog w) A (call (.type "zip") [.ref t,.ref l]) Q E s:=
  callType_new PySem.F.called_zip (by decide) (PySem.F.typeCall_zip_2 _ _) (PySem.F.newCall_zip_2 _ _) (λobj=>PySem.F.args_object_init_3 obj _ _) PySem.F.entry_zip_new (qp9 t l xs ys) ⟨h1,h2,⟨⟨_,Al _ rfl,rfl⟩,h⟩⟩
theorem qk7 (R:Rep W fr g σ s):∀c∈[s.heap.objs.size+4,s.heap.objs.size+2,s.heap.objs.size+3,s.heap.objs.size,s.heap.objs.size+1],s.heap.get? c=Dt:=λc hc=>by
  have nn:∀j,s.heap.get? (s.heap.objs.size+j)=Dt:=λj=>BW (A5 _ _)
  simp at hc;rcases hc with rfl | rfl | rfl | rfl | rfl
  . exact nn 4
  . exact nn 2
  . exact nn 3
  . exact nn 0
  . exact nn 1
theorem Id7 (hL':Lv σ v' l'):CallIt W Y k fr σ (.glob (.type "zip")) [.tup l,v'] (.zip (.tup l) l v' l') σ:=λA g s vf vs rm R rf rv Q E hQ=>by
  obtain rfl:vf=.type "zip":=rf;refine qa2 (rv) ?_;intro v1 q1 eq_16_2 ra r1;subst eq_16_2;refine qa2 (r1) ?_;intro v2 q2 eq_17_2 rb r2;subst eq_17_2;obtain rfl:q2=[]:=r2;obtain ⟨a,us,n,e,hg,ho,hr⟩:=id ra;subst e;refine qa1 (hL'.at R rb) ?_;intro b us' n' eq_19_3 ho' hr' _;subst eq_19_3;refine qsr ⟨_,ho,rfl,_,rfl⟩ (qah ho') ?_;have z1:(zpA s.heap a).objs.size=s.heap.objs.size+1:=D8 ..;have z2:(zpB s.heap a b).objs.size=s.heap.objs.size+2:=(D8 ..).trans (congrArg (· + 1) z1);have z3:(zpC s.heap a b).objs.size=s.heap.objs.size+3:=(D8 ..).trans (congrArg (· + 1) z2);have z4:(zpD s.heap a b).objs.size=s.heap.objs.size+4:=(D8 ..).trans (congrArg (· + 1) z3);have up:∀{h:Heap} {o o':Obj} {c:Ht},h.get? c=ER o->(h.push o').get? c=ER o:=λq=>Am _ q
  have g5:(zpE s.heap a b).get? (zpD s.heap a b).objs.size=ER _:=Al _ rfl;have g4:(zpE s.heap a b).get? (zpC s.heap a b).objs.size=ER _:=up (Al _ rfl);have g3:(zpE s.heap a b).get? (zpB s.heap a b).objs.size=ER _:=up (up (Al _ rfl));have g2:(zpE s.heap a b).get? (zpA s.heap a).objs.size=ER _:=up (up (up (Al _ rfl)));have g1:(zpE s.heap a b).get? s.heap.objs.size=ER _:=up (up (up (up (Al _ rfl))));have hk:∀c o,s.heap.get? c=ER o->(zpE s.heap a b).get? c=ER o:=λc o q=>up (up (up (up (up q))))
  rw[z2,z3] at g5;rw[z1] at g3;rw[z4] at g5;rw[z3] at g4;rw[z2] at g3;rw[z1] at g2;rw[z4];refine Gu g5 ?_;refine AC ?_ (R.keepsAll hk);intro R1 e1a;have S:(AIt.zip (.tup l) l v' l').St W g (zpE s.heap a b) [s.heap.objs.size+4,s.heap.objs.size+2,s.heap.objs.size+3,s.heap.objs.size,s.heap.objs.size+1] (.ref (s.heap.objs.size+4)) 0:=
    ⟨_,_,_,_,_,a,b,rfl,rfl,by simp,ra.up e1a,rb.up e1a,g5,g3,⟨_,_,g4⟩,.inl ⟨rfl,_,g1,rfl,rfl⟩,_,g2,rfl,rfl⟩
  have hn:=qk7 R;exact hQ _ g _ _ R1 e1a.no S (λc hc=>⟨R.newO (hn c hc),R.new1 (hn c hc),S.objs _ c hc⟩) hn
theorem CallIt.zip (hL:Lv σ v l)(hL':Lv σ v' l'):CallIt W Y k fr σ (.glob (.type "zip")) [v,v'] (.zip v l v' l') σ:=λA g s vf vs rm R rf rv Q E hQ=>by
  obtain rfl:vf=.type "zip":=rf;refine qa2 (rv) ?_;intro v1 q1 eq_16_2 ra r1;subst eq_16_2;refine qa2 (r1) ?_;intro v2 q2 eq_17_2 rb r2;subst eq_17_2;obtain rfl:q2=[]:=r2;refine qa1 (hL.at R ra) ?_;intro a us n eq_18_3 ho hr _;subst eq_18_3;refine qa1 (hL'.at R rb) ?_;intro b us' n' eq_19_3 ho' hr' _;subst eq_19_3;refine call_zip_2 (qah ho) (qah ho') λh' hz hTI hTO h1 h2 hsz hk=>?_
  refine Gu hz ?_;refine AC ?_ (R.keepsAll hk);intro R1 e1a;have S:(AIt.zip v l v' l').St W g h' [s.heap.objs.size+4,s.heap.objs.size+2,s.heap.objs.size+3,s.heap.objs.size,s.heap.objs.size+1] (.ref (s.heap.objs.size+4)) 0:=
    ⟨_,_,_,_,_,a,b,rfl,rfl,by simp,ra.up e1a,rb.up e1a,hz,hTI,⟨_,_,hTO⟩,.inr ⟨by rcases hL with rfl | ⟨_,rfl,_⟩ <;> rfl,h1⟩,h2⟩
  have hn:=qk7 R;exact hQ _ g _ _ R1 e1a.no S (λc hc=>⟨R.newO (hn c hc),R.new1 (hn c hc),S.objs _ c hc⟩) hn
def ForC (C:Cx) (k:Nat) (fr:List HA) (t:Expr) (body orelse:List Stmt) (ai:AIt) (i:Nat) (m:List (Option AV)) (σ:List AObj) (fl:AFl) (m':List (Option AV)) (z':List AObj):Prop:=
  ∀(A:BJ) (env:HA) (g:Ht->Own) (s:Ab) (it:Hw) (ws:List Ht),Room k fr A->Rep C.W fr g σ s->Fra C env m g s.heap->ai.St C.W g s.heap ws it i->(∀a∈ws,Priv C.W g s.heap a)->∀(R:Ho->Ab->Prop),
    (∀f' g' s',Rep C.W fr g' z' s'->Evo C.W (λa=>FX C.nm env a\/a∈ws) C.Y g s.heap g' s'.heap->Fra C env m' g' s'.heap->RFl C.W g' s'.heap fl f'->R (.ok f') s')->Cn (Hu C.W.prog C.W.w) A (.forLoop t it body orelse env) R s
theorem Evo.inX {X X':Ht->Prop}(e:Evo W X Y g h g' h')(hX:∀a,X a->X' a):Evo W X' Y g h g' h':=
  ⟨λa o ho hx hq=>e.keep a o ho (λq=>hx (hX a q)) hq,e.keepL,λa q hx=>e.fz a q λq=>hx (hX a q),e.loc,e.aux,λa o ho q hx=>e.oth a o ho q λq=>hx (hX a q),e.tabs⟩
theorem ForC.done (hO:ai.Ok σ)(hi:ai.items.length=i)(ho:Exs C k fr m σ orelse fl m' z'):ForC C k fr t body orelse ai i m σ fl m' z':=λA env g s it ws rm R F S hP Rr hR=>by
  refine qbe (Icn hO rm R S hP hi λg1 s1a R1 e1a=>?_);exact ho A env g1 s1a rm R1 (F.turn hP e1a) _ _ λf' g2 s2 R2 e2a F2 hf=>hR f' g2 s2 R2 ((e1a.inX λ_ q=>.inr q).toY.trans (e2a.inX λ_ q=>.inl q)) F2 hf
theorem ForC.turn {bf:AFl}(hO:ai.Ok σ)(hp:ai.plain=Hq)(hv:ai.items[i]?=ER v)(ht:ai.pairs=Hq->∃elts n p,t=.Tuple elts n p)(ha:As C k fr m σ t v m1 z1)(hb:Exs C k fr m1 z1 body bf m2 z2)(hn:(bf=.next\/bf=.cont)/\ForC C k fr t body orelse ai (i+1) m2 z2 fl m' z'\/bf=.brk/\fl=.next/\m'=m2/\z'=z2\/(∃u,bf=.ret u/\fl=.ret u/\m'=m2/\z'=z2)):ForC C k fr t body orelse ai i m σ fl m' z':=λA env g s it ws rm R F S hP Rr hR=>by
  refine qbe (AD (AIt.step (t:=t) hO rm R S hP hv ht (Q:=λv' s1a=>∃g1,Rep C.W fr g1 σ s1a/\Evo C.W (·∈ws) noY g s.heap g1 s1a.heap/\ai.St C.W g1 s1a.heap ws it (i+1)/\(∀a∈ws,Priv C.W g1 s1a.heap a)/\RV C.W g1 s1a.heap v v')
    λv' g1 s1a R1 e1a S1 hP1 rv=>⟨g1,R1,e1a,S1,hP1,rv⟩) (λr s1a h1a=>?_) λ_ _ e=>e)
  refine qa4 (h1a) ?_;(try clear h1a);intro v' eq_21_1 h1a;subst eq_21_1;refine AD h1a (λ_ s1' h1'=>?_) λ_ _ e=>e
  refine qew (h1') ?_;intro g1 R1 e1a S1 hP1 rv;have F1:=F.turn hP e1a;refine ha A env g1 s1' v' rm R1 F1 rv _ _ λg2 s2 R2 e2a F2=>?_
  have keep:∀{g1 g2:Ht->Own} {h1a h2a:Heap} {m:List (Option AV)},Fra C env m g1 h1a->Evo C.W (FX C.nm env) C.Y g1 h1a g2 h2a->(∀a∈ws,Priv C.W g1 h1a a)->(∀a∈ws,∀o,h1a.get? a=ER o->h2a.get? a=ER o)/\∀a∈ws,Priv C.W g2 h2a a:=λ{g1 g2 h1a h2a m} F e hP=>
    ⟨λa ha o ho=>(Priv.keep F e (hP a ha) ho).1,λa ha=>by refine qa4 ((hP a ha).obj) ?_;intro o ho _;exact (Priv.keep F e (hP a ha) ho).2⟩
  refine AC ?_ (keep F1 e2a hP1);intro k2 hP2;have S2:=AIt.St.mono e2a F1.xok k2 ai (.inr hp) S1;refine hb A env g2 s2 rm R2 F2 _ _ λf' g3 s3 R3 e3a F3 hf=>?_
  refine AC ?_ (keep F2 e3a hP2);intro k3 hP3;have S3:=AIt.St.mono e3a F2.xok k3 ai (.inr hp) S2;have e13:Evo C.W (λa=>FX C.nm env a\/a∈ws) C.Y g s.heap g3 s3.heap:=((e1a.inX λ_ q=>.inr q).toY.trans (e2a.inX λ_ q=>.inl q)).trans (e3a.inX λ_ q=>.inl q);rcases hn with ⟨hbf,hn⟩ | ⟨rfl,rfl,rfl,rfl⟩ | ⟨u,rfl,rfl,rfl,rfl⟩
  . have go:Cn (Hu C.W.prog C.W.w) A (.forLoop t it body orelse env) Rr s3:=hn A env g3 s3 it ws rm R3 F3 S3 hP3 Rr λf' g4 s4 R4 e4 F4 hf=>hR f' g4 s4 R4 (e13.trans e4) F4 hf
    rcases hbf with rfl | rfl
    . obtain rfl:f'=.next:=hf;exact go
    . obtain rfl:f'=.cont:=hf;exact go
  . obtain rfl:f'=.brk:=hf;exact hR .next g3 s3 R3 e13 F3 rfl
  . refine qa4 (hf) ?_;intro v'' eq_26_1 hv'';subst eq_26_1;exact hR _ g3 s3 R3 e13 F3 ⟨v'',rfl,hv''⟩
theorem ForC.next (hO:ai.Ok σ)(hp:ai.plain=Hq)(hv:ai.items[i]?=ER v)(ht:ai.pairs=Hq->∃elts n p,t=.Tuple elts n p)(ha:As C k fr m σ t v m1 z1)(hb:Exs C k fr m1 z1 body .next m2 z2)(hn:ForC C k fr t body orelse ai (i+1) m2 z2 fl m' z'):ForC C k fr t body orelse ai i m σ fl m' z':=.turn hO hp hv ht ha hb (.inl ⟨.inl rfl,hn⟩)
theorem ForC.brk (hO:ai.Ok σ)(hp:ai.plain=Hq)(hv:ai.items[i]?=ER v)(ht:ai.pairs=Hq->∃elts n p,t=.Tuple elts n p)(ha:As C k fr m σ t v m1 z1)(hb:Exs C k fr m1 z1 body .brk m' z'):
    ForC C k fr t body orelse ai i m σ .next m' z':=.turn hO hp hv ht ha hb (.inr (.inl ⟨rfl,rfl,rfl,rfl⟩))
theorem Ib2 (hi:ItE C k fr m σ iter ai z1)(hf:ForC C k fr t body orelse ai 0 m z1 fl m' z')(hs:autoParam (∀x env,BG iter env x=pure x) ap0._auto_1):
    Ex C k fr m σ (.For t iter body orelse p) fl m' z':=λA env g s rm R F Q E hQ=>by
  refine wpAny_For (hi A env g s rm R F _ _ λit g1 s1a ws R1 e1a S hP hfr=>?_) (λx=>hs x env);refine hf A env g1 s1a it ws rm R1 (F.up e1a) S hP _ λf' g2 s2 R2 e2a F2 hf=>?_
  refine hQ f' g2 s2 R2 ?_ F2 hf;exact ((e1a.toX (X:=λa=>FX C.nm env a\/a∈ws)).trans e2a).weak R.low (λa o ho q=>q.resolve_right λq=>by rw[hfr a q] at ho;cases ho) λ_ q=>q
end
end
section
section
variable {s:Ab}
theorem Rep.turn3 (R:Rep W fr g σ s)(tk:Nat)(C:Ht->Prop)(hC:∀a,C a->g a=.other/\W.s1.heap.get? a=Dt)(hX:XOk C g s.heap)(hfr:∀en∈fr,∀f,en.frame=ER f->¬C f)(hg:∀a,¬C a->g' a=g a)(hg':∀a,C a->g' a=.other\/(g' a=.fz/\∃o,h'.get? a=ER o))(hk:∀a o,s.heap.get? a=ER o->¬C a->h'.get? a=ER o):
    Rep W fr g' σ { s with heap:=h',toks:=tk }/\Evo W C noY g s.heap g' h':=by
  have hnC:∀{a:Ht},g a≠.other->¬C a:=λ{a} q hc=>q (hC a hc).1
  have hin:∀{a:Ht},g a≠.other->g' a=g a:=λ{a} q=>hg a (hnC q)
  have hback:∀a,g' a=g a\/g' a=.other\/(g' a=.fz/\∃o,h'.get? a=ER o):=λa=>by
    by_cases hc:C a
    . exact .inr (hg' a hc)
    . exact .inl (hg a hc)
  have hlc:∀a k,g' a=.loc k->g a=.loc k:=λa k q=>by
    rcases hback a with r | r | ⟨r,_⟩
    . rw[<- r];exact q
    . rw[r] at q;cases q
    . rw[r] at q;cases q
  have hla:∀a k,g' a=.aux k->g a=.aux k:=λa k q=>by
    rcases hback a with r | r | ⟨r,_⟩
    . rw[<- r];exact q
    . rw[r] at q;cases q
    . rw[r] at q;cases q
  have hnb:∀{a o},W.s1.heap.get? a=ER o->¬C a:=λ{a o} ho hc=>by rw[(hC a hc).2] at ho;cases ho
  have hnt:∀{a},W.tab a->¬C a:=λ{a} ht hc=>Iax (hC a hc).2 ht
  have e:Evo W C noY g s.heap g' h':=⟨λa o ho hx _=>.of (hk a o ho hx),λa o n ho hq _=>hk a o ho (hnC (by rcases hq with q | q <;> rw[q] <;> nofun)),λa q hx=>by rw[hin (by rw[q];nofun)];exact q,
    λa n q=>by rw[hin (by rw[q];nofun)];exact q,λa n q=>by rw[hin (by rw[q];nofun)];exact q,λa o ho q hx=>.inl (by rw[hg a hx];exact q),λa o ht ho=>⟨o,hk a o ho (hnt ht)⟩⟩
  refine ⟨⟨λa o ho ht=>hk a o (R.base a o ho ht) (hnb ho),λa o ho=>by rw[hg a (hnb ho)];exact R.baseO a o ho,
    λa ht=>by rw[hg a (hnt ht)];exact R.tabO a ht,λa ht=>?_,λa ha=>?_,λn ao ho=>?_,λa b n qa qb=>R.uniq a b n (hlc a n qa) (hlc b n qb),R.pl,λa n q=>R.bnd a n (q.imp (hlc a n) (hla a n)),λen he=>?_,R.gens,R.os⟩,e⟩
  . refine qaj (R.tabs a ht) ?_;intro more h2 h3 h4;exact ⟨more,hk a _ h2 (hnt ht),h3,λpos v q=>(h4 pos v q).mono e hX⟩
  . rcases hback a with r | r | ⟨_,r⟩
    . rw[r] at ha;refine Ap (R.low a ha) ?_;intro o ho;exact ⟨o,hk a o ho (hnC ha)⟩
    . exact absurd r ha
    . exact r
  . refine qa4 (R.locs n ao ho) ?_;intro a qa hr;exact ⟨a,e.loc a n qa,hr.mono e hX (λo q=>hk a o q (hnC (by rw[qa];nofun))) (λd hd o q=>hk d o q (hnC (by rw[hd];nofun))) ao (R.pl n ao ho)⟩
  . refine qaf (R.frs en he) ?_;intro f o es ep h1 h2 h3 h4 h5;have hc:¬C f:=hfr en he f h1;exact ⟨f,o,es,ep,h1,hk f o h2 hc,h3,by rw[hg f hc];exact h4,h5⟩
theorem Fra.turn3 {X:Ht->Prop}(F:Fra C env m g h)(hXo:XOk X g h)(hXg:∀a,X a->g a=.other)(hxL:¬X env.locals)(hxc:∀c v,X c->h.get? c≠ER (qat v))(e:Evo C.W X Y g h g' h'):Fra C env m g' h':=by
  have up:∀av v,RV C.W g h av v->RV C.W g' h' av v:=λav v r=>r.mono e hXo av (.inl hXg) v
  refine qa4 (F.ns) ?_;intro mh ne_4_1 hm;refine qap ne_4_1 ?_;intro oL es ep hL hLd r;refine qaj ((e.keep _ _ hL hxL (.inr ⟨F.Lo,qb2 F.Lz⟩)).ex) ?_;intro oL' hL' hLd' _;rw[hLd] at hLd';refine ⟨F.kind,F.names,F.nd,F.glob,F.blt,F.code,?_,F.Lz,⟨mh,⟨oL',es,ep,hL',hLd',r⟩,λi x av h1 h2=>?_⟩,λi x k h1 h2=>?_,F.pl,F.inj⟩
  . rcases e.oth _ _ hL F.Lo hxL with q | ⟨_,u,q⟩
    . exact q
    . rw[hL'] at q;obtain rfl:=Sj q;cases hLd'
  . refine qa4 (hm i x av h1 h2) ?_;intro v h3 h4;exact ⟨v,h3,up _ _ h4⟩
  . refine qan (F.cell i x k h1 h2) ?_;intro c ov h3 h4 h5 h6 h7;have hx:¬X c:=λq=>hxc c ov q h5
    have h5':h'.get? c=ER (qat ov):=(e.keep _ _ h5 hx (h6.symm.imp id λq=>⟨q,qb2 h4⟩)).get;refine ⟨c,ov,h3,h4,h5',?_,λav q=>?_⟩
    . rcases h6 with q | q
      . exact (e.oth _ _ h5 q hx).imp id (·.1)
      . exact .inr (e.fz _ q hx)
    . refine qa4 (h7 av q) ?_;intro v h8 h9;exact ⟨v,h8,up _ _ h9⟩
theorem qai:∀{l l':List AV},plains (l++l')=(plains l&&plains l')
  | [],l'=>rfl
  | a::l,l'=>by show (plain a&&plains (l++l'))=((plain a&&plains l)&&plains l');rw[qai,Bool.and_assoc]
structure Acc (W:Wd) (g:Ht->Own) (h:Heap) (D:Ht) (acc:List AV):Prop where
  priv:Priv W g h D
  obj:∃vs n,h.get? D=ER (qa8 vs n)/\RVs W g h acc vs.toList
  pl:plains acc=Hq
theorem Acc.up {D:Ht}(a:Acc W g h D acc)(e:Evo W noX Y g h g' h'):Acc W g' h' D acc:=by
  refine qcs (a.obj) ?_;intro vs n ho hr;refine AC ?_ (Iap e a.priv ho);intro q p;exact ⟨p,⟨vs,n,q,hr.up e⟩,a.pl⟩
theorem Acc.frame {D:Ht}(F:Fra C env m g h)(e:Evo C.W (FX C.nm env) C.Y g h g' h')(a:Acc C.W g h D acc):Acc C.W g' h' D acc:=by
  refine qcs (a.obj) ?_;intro vs n ho hr;refine AC ?_ (Priv.keep F e a.priv ho);intro q p;exact ⟨p,⟨vs,n,q,hr.mono e F.xok acc (.inr a.pl) _⟩,a.pl⟩
theorem Acc.turn {X:Ht->Prop}{D:Ht}(a:Acc W g h D acc)(hX:∀a,X a->Priv W g h a)(hD:¬X D)(e:Evo W X Y g h g' h'):Acc W g' h' D acc:=by
  refine qcs (a.obj) ?_;intro vs n ho hr;have h1:=(e.keep D _ ho hD (.inr ⟨a.priv.own,Iax a.priv.new⟩)).get;refine ⟨⟨?_,a.priv.new,_,h1,nds rfl rfl rfl⟩,⟨vs,n,h1,hr.mono e (Priv.xok hX) acc (.inr a.pl) _⟩,a.pl⟩;rcases e.oth D _ ho a.priv.own hD with q | ⟨_,v,q⟩
  . exact q
  . rw[h1] at q;injection q with q;injection q with q1 q2 q3;cases q3
theorem Acc.push (R:Rep W fr g σ s){D:Ht}{u:Hw}(a:Acc W g s.heap D acc)(hv:RV W g s.heap v u)(hp:plain v=Hq)(hz:acc.length<=Ai)(hQ:∀s',Rep W fr g σ s'->Evo W (·=D) noY g s.heap g s'.heap->Acc W g s'.heap D (acc++[v])->Q .none s'):Hs (Hu W.prog W.w) A (call (.builtin "list.append") [.ref D,u]) Q E s:=by
  refine qcs (a.obj) ?_;intro vs n ho hr;refine wpAny_list_append_plain (items:=vs) ?_ (λh' hl hs=>?_) (by rw[<- Az,hr.length];exact hz)
  . exact ⟨n,ho⟩
  . have hX:∀b,b=D->Priv W g s.heap b:=λb q=>q ▸ a.priv
    refine AC ?_ (R.turn2 (g':=g) (h':=h') s.toks (·=D) hX (λ_ _ _ _=>rfl) (λb q=>.inl (q ▸ a.priv.own)) (λb q=>.inl (R.newO q)) (λb o q hb=>(hs.2 b hb).trans q));intro R' e';refine Ap hl ?_;intro n' hl;refine hQ _ R' e' ⟨⟨a.priv.own,a.priv.new,_,hl,nds rfl rfl rfl⟩,⟨_,n',hl,?_⟩,?_⟩
    . rw[Dp];exact (hr.mono e' (Priv.xok hX) acc (.inr a.pl) _).append ⟨u,[],rfl,hv.mono e' (Priv.xok hX) v (.inr hp) _,rfl⟩
    . exact by rw[qai,a.pl];show (Hq&&(plain v&&Hq))=Hq;rw[hp];rfl
end
end
section
def qic (prog:Dw) (w:World) (A:BJ) (elt:Expr) (gens:List DQ) (scope:Scope) (pos:Pos) (d:Nat) (acc:Hw) (env:HA) (Q:Unit->Ab->Prop) (E:Hw->Ab->Prop) (s:Ab):Prop:=
  match gens[d+1]? with
  | some g'=>Hs (Hu prog w) A (eval g'.iter env) (λx s1a=>Hs (Hu prog w) A (BG g'.iter env x) (λx s2=>Hs (Hu prog w) A (Hg x) (λit s3=>
      Hs (Hu prog w) A (runOwn (.compStart (.ListComp elt gens scope pos) (d+1) it acc env) env) (λ_ s4=>Q () s4) E s3) E s2) E s1a) E s
  | none=>Hs (Hu prog w) A (eval elt env) (λx s1a=>Hs (Hu prog w) A (call (.builtin "list.append") [acc,x]) (λ_ s2=>Q () s2) E s1a) E s
theorem qcv {s:Ab}(hg:gens[d]?=ER ⟨t,iter,ifs,0⟩)(hns:∀g',gens[d+1]?=ER g'->g'.is_async=0){acc:Hw}(turn:Hs (Hu prog w) A (pyNext it) (λr s1a=>match r with
      | none=>R (.ok .next) s1a
      | some v=>Hs (Hu prog w) A (Et t it v) (λ_ s1'=>Hs (Hu prog w) A (assign t env v) (λ_ s2=>
          Hs (Hu prog w) A (forIn ifs Hq λc r=>if r=Hq then do let ok <- isTrue c env (eval c env);pure (Ch ok) else pure (Ch r)) (λok s3=>
            if ok=Hq then qic prog w A elt gens scope pos d acc env (λ_ s5=>Cn (Hu prog w) A (.compLoop (.ListComp elt gens scope pos) d it acc env) R s5) (DZ (Hu prog w) A env λe s'=>R (.error e) s') s3
            else Cn (Hu prog w) A (.compLoop (.ListComp elt gens scope pos) d it acc env) R s3) (DZ (Hu prog w) A env λe s'=>R (.error e) s') s2) (DZ (Hu prog w) A env λe s'=>R (.error e) s') s1') (DZ (Hu prog w) A env λe s'=>R (.error e) s') s1a) (DZ (Hu prog w) A env λe s'=>R (.error e) s') s):
    Cn (Hu prog w) A (.compLoop (.ListComp elt gens scope pos) d it acc env) R s:=by
  refine DO ?_;show Hs _ A ((compTurn (.ListComp elt gens scope pos) d it acc env).onRaise (λx=>do Ha x env;GO x)) _ _ s;refine wpAny_noted ?_;unfold compTurn;simp only[hg];unfold qic at turn;cases h:gens[d+1]? with
  | none=>
    rw[h] at turn;refine Aa (AS (Aa (AD turn (λr s1a h1a=>?_) λ_ _ h'=>h')));cases r with
    | none=>exact Ad h1a
    | some v=>
      refine Aa (AD h1a (λ_ s1' h1'=>?_) λ_ _ h'=>h');refine Aa (AD h1' (λ_ s2 h2a=>Aa (AD h2a (λok s3 h3=>?_) λ_ _ h'=>h')) λ_ _ h'=>h');cases ok with
      | false=>exact Ad ⟨rfl,h3⟩
      | true=>exact Aa (Aa (AD h3 (λx s4 h4=>Aa (AD h4 (λ_ s5 h5=>Ad (Ad ⟨rfl,h5⟩)) λ_ _ h'=>h')) λ_ _ h'=>h'))
  | some g'=>
    obtain ⟨t',i',f',a'⟩:=g';have h0:a'=0:=hns _ h;subst h0;rw[h] at turn;refine Aa (AS (Aa (AD turn (λr s1a h1a=>?_) λ_ _ h'=>h')));cases r with
    | none=>exact Ad h1a
    | some v=>
      refine Aa (AD h1a (λ_ s1' h1'=>?_) λ_ _ h'=>h');refine Aa (AD h1' (λ_ s2 h2a=>Aa (AD h2a (λok s3 h3=>?_) λ_ _ h'=>h')) λ_ _ h'=>h');cases ok with
      | false=>exact Ad ⟨rfl,h3⟩
      | true=>
        refine Aa (AD h3 (λx s4 h4=>Aa (AS ?_)) λ_ _ h'=>h');show Hs _ A (BG i' env x >>= _) _ _ _;refine Aa (AD h4 (λx s5 h5=>?_) λ_ _ h'=>h');refine Aa (AK ?_);show Hs _ A (Hg x) _ _ _;exact AD h5 (λit s6 h6=>Aa (AD h6 (λ_ s7 h7=>Ad ⟨rfl,h7⟩) λ_ _ h'=>h')) λ_ _ h'=>h'
theorem qbx {s:Ab}(hg:gens[d]?=ER ⟨t,iter,ifs,0⟩){acc:Hw}(h0:Cn (Hu prog w) A (.compLoop (.ListComp elt gens scope pos) d it acc env) R s)(h:Hs (Hu prog w) A (Hg it) (λit' s'=>Cn (Hu prog w) A (.compLoop (.ListComp elt gens scope pos) d it' acc env) R s') (DZ (Hu prog w) A env λx s'=>R (.error x) s') s):
    Cn (Hu prog w) A (.compStart (.ListComp elt gens scope pos) d it acc env) R s:=by
  refine DO ?_;show Hs _ _ ((compStart (.ListComp elt gens scope pos) d it acc env).onRaise (λx=>do Ha x env;Dx theWindowsPlace)) _ _ s;refine wpAny_notedAt ?_;unfold compStart;have hc:clausesOf (.ListComp elt gens scope pos)=gens:=rfl;rw[hc,hg];show Hs _ _ (ask >>= _) _ _ s;refine Aa (wpAny_askSetting (wpAny_ite ?_));split
  . first
      | exact Aa (Ad (Ad (Hb rfl h0)))
      | exact Ad (Hb rfl h0)
  . first
      | exact Aa (FP (Aa (AS (Aa (AD h (λit' s' h'=>Ad (Hb rfl h')) λ_ _ x=>x)))))
      | (refine Aa (FP ?_);show Hs _ _ (Dx iter.pos >>= _) _ _ s;exact Aa (AS (Aa (AD h (λit' s' h'=>Ad (Hb rfl h')) λ_ _ x=>x))))
def Tests (C:Cx) (k:Nat) (fr:List HA) (m:List (Option AV)) (σ:List AObj) (ifs:List Expr) (b:Bool) (z':List AObj):Prop:=
  ∀(A:BJ) (env:HA) (g:Ht->Own) (s:Ab),Room k fr A->Rep C.W fr g σ s->Fra C env m g s.heap->∀(Q:Bool->Ab->Prop) (E:Hw->Ab->Prop),
    (∀g' s',Rep C.W fr g' z' s'->Evo C.W noX C.Y g s.heap g' s'.heap->Q b s') ->
    Hs (Hu C.W.prog C.W.w) A (forIn ifs Hq λc r=>if r=Hq then do let ok <- isTrue c env (eval c env);pure (Ch ok) else pure (Ch r)) Q E s
def CompC (C:Cx) (k:Nat) (fr:List HA) (elt:Expr) (gens:List DQ) (scope:Scope) (pos:Pos) (d:Nat) (ai:AIt) (i:Nat) (m:List (Option AV)) (σ:List AObj) (acc:List AV) (m':List (Option AV)) (z':List AObj) (acc':List AV):Prop:=
  ∀(A:BJ) (env:HA) (g:Ht->Own) (s:Ab) (it:Hw) (ws:List Ht) (D:Ht),Room k fr A->Rep C.W fr g σ s->Fra C env m g s.heap->ai.St C.W g s.heap ws it i->(∀a∈ws,Priv C.W g s.heap a)->Acc C.W g s.heap D acc->D∉ws->∀(R:Ho->Ab->Prop),
    (∀g' s',Rep C.W fr g' z' s'->Evo C.W (λa=>FX C.nm env a\/a=D\/a∈ws) C.Y g s.heap g' s'.heap->Fra C env m' g' s'.heap->Acc C.W g' s'.heap D acc'->R (.ok .next) s') ->
    Cn (Hu C.W.prog C.W.w) A (.compLoop (.ListComp elt gens scope pos) d it (.ref D) env) R s
def Inner (C:Cx) (k:Nat) (fr:List HA) (elt:Expr) (gens:List DQ) (scope:Scope) (pos:Pos) (d:Nat) (m:List (Option AV)) (σ:List AObj) (acc:List AV) (m':List (Option AV)) (z':List AObj) (acc':List AV):Prop:=
  ∀(A:BJ) (env:HA) (g:Ht->Own) (s:Ab) (D:Ht),Room k fr A->Rep C.W fr g σ s->Fra C env m g s.heap->Acc C.W g s.heap D acc->∀(Q:Unit->Ab->Prop) (E:Hw->Ab->Prop),
    (∀g' s',Rep C.W fr g' z' s'->Evo C.W (λa=>FX C.nm env a\/a=D) C.Y g s.heap g' s'.heap->Fra C env m' g' s'.heap->Acc C.W g' s'.heap D acc'->Q () s') ->
    qic C.W.prog C.W.w A elt gens scope pos d (.ref D) env Q E s
section
variable {acc1 acc':List AV}
theorem Tests.nil:Tests C k fr m σ [] Hq σ:=λA env g s rm R F Q E hQ=>wpAny_tests_nil (hQ g s R Evo.refl)
theorem Tests.one {c:Expr}{b:Bool}(h:Tr C k fr m σ c b z'):Tests C k fr m σ [c] b z':=λA env g s rm R F Q E hQ=>wpAny_tests_one (h A env g s rm R F Q E hQ)
theorem Ibf (hn:gens[d+1]?=Dt)(he:Ev C k fr m σ elt v z')(hp:plain v=Hq)(hz:acc.length<=Ai):Inner C k fr elt gens scope pos d m σ acc m z' (acc++[v]):=λA env g s D rm R F a Q E hQ=>by
  unfold qic;rw[hn];refine he A env g s rm R F _ _ λv' g1 s1a R1 e1a rv=>?_
  refine Acc.push R1 (a.up e1a) rv hp hz λs2 R2 e2a a2=>?_
  have F1:=F.up e1a;have hX:∀b,b=D->Priv C.W g1 s1a.heap b:=λb q=>q ▸ (a.up e1a).priv
  exact hQ g1 s2 R2 (e1a.toX.trans (e2a.inX λ_ q=>.inr q).toY) (F1.turn hX e2a) a2
theorem Idf (hn:gens[d+1]?=ER ⟨t,iter,ifs,0⟩)(hi:ItE C k fr m σ iter ai z1)(hc:CompC C k fr elt gens scope pos (d+1) ai 0 m z1 acc m' z' acc')(hs:autoParam (∀x env,BG iter env x=pure x) ap0._auto_1):
    Inner C k fr elt gens scope pos d m σ acc m' z' acc':=λA env g s D rm R F a Q E hQ=>by
  unfold qic;rw[hn];refine (AD (hi A env g s rm R F (λit s'=>∃g' ws,Rep C.W fr g' z1 s'/\Evo C.W noX C.Y g s.heap g' s'.heap/\ai.St C.W g' s'.heap ws it 0/\(∀a∈ws,Priv C.W g' s'.heap a)/\(∀a∈ws,s.heap.get? a=Dt)) E λit g' s' ws R' e' S hP hf=>⟨g',ws,R',e',S,hP,hf⟩) (λx s1a h1a=>?_) λ_ _ e=>e);show Hs _ A (BG iter env x) _ _ _;rw[hs];refine Ad ?_;refine AD h1a (λit s2 h2a=>?_) λ_ _ e=>e
  refine qan (h2a) ?_;intro g2 ws R2 e2a S hP hf;have hD:D∉ws:=λq=>by refine qa4 (a.priv.obj) ?_;intro o ho _;rw[hf D q] at ho;cases ho
  refine wpAny_runOwn ?_;have loop:Cn (Hu C.W.prog C.W.w) A (.compLoop (.ListComp elt gens scope pos) (d+1) it (.ref D) env) (λr s'=>match r with | .ok f=>Q () s' | .error e=>cameBackBy (Hu C.W.prog C.W.w) A env E e s') s2:=
    hc A env g2 s2 it ws D rm R2 (F.up e2a) S hP (a.up e2a) hD _ λg3 s3 R3 e3a F3 a3=>by
      refine hQ g3 s3 R3 ?_ F3 a3;exact ((e2a.toX (X:=λa=>FX C.nm env a\/a=D\/a∈ws)).trans e3a).weak R.low (λb o ho q=>by
        rcases q with q | q | q
        . exact .inl q
        . exact .inr q
        . rw[hf b q] at ho;cases ho) λ_ q=>q
  exact qbx hn loop (Idc S loop)
theorem CompC.done (hg:gens[d]?=ER ⟨t,iter,ifs,0⟩)(hO:ai.Ok σ)(hi:ai.items.length=i)(hns:∀g',gens[d+1]?=ER g'->g'.is_async=0):CompC C k fr elt gens scope pos d ai i m σ acc m σ acc:=λA env g s it ws D rm R F S hP a hD Rr hR=>by
  refine qcv hg hns (Icn hO rm R S hP hi λg1 s1a R1 e1a=>?_);exact hR g1 s1a R1 (e1a.inX λ_ q=>.inr (.inr q)).toY (F.turn hP e1a) (a.turn hP hD e1a)
theorem CompC.turn {b:Bool}(hg:gens[d]?=ER ⟨t,iter,ifs,0⟩)(hO:ai.Ok σ)(hp:ai.plain=Hq)(hv:ai.items[i]?=ER v)(ht:ai.pairs=Hq->∃elts n p,t=.Tuple elts n p)(ha:As C k fr m σ t v m1 z1)(hb:Tests C k fr m1 z1 ifs b z2)(hn:(b=Hq/\Inner C k fr elt gens scope pos d m1 z2 acc m2 z3 acc1)\/(b=Hr/\m2=m1/\z3=z2/\acc1=acc))(hr:CompC C k fr elt gens scope pos d ai (i+1) m2 z3 acc1 m' z' acc')(hns:∀g',gens[d+1]?=ER g'->g'.is_async=0):CompC C k fr elt gens scope pos d ai i m σ acc m' z' acc':=λA env g s it ws D rm R F S hP a hD Rr hR=>by
  refine qcv hg hns (AD (AIt.step (t:=t) hO rm R S hP hv ht (Q:=λv' s1a=>∃g1,Rep C.W fr g1 σ s1a/\Evo C.W (·∈ws) noY g s.heap g1 s1a.heap/\ai.St C.W g1 s1a.heap ws it (i+1)/\(∀a∈ws,Priv C.W g1 s1a.heap a)/\RV C.W g1 s1a.heap v v')
    λv' g1 s1a R1 e1a S1 hP1 rv=>⟨g1,R1,e1a,S1,hP1,rv⟩) (λr s1a h1a=>?_) λ_ _ e=>e)
  refine qa4 (h1a) ?_;(try clear h1a);intro v' eq_3_1 h1a;subst eq_3_1;refine AD h1a (λ_ s1' h1'=>?_) λ_ _ e=>e
  refine qew (h1') ?_;intro g1 R1 e1a S1 hP1 rv;have F1:=F.turn hP e1a;have a1a:=a.turn hP hD e1a;refine ha A env g1 s1' v' rm R1 F1 rv _ _ λg2 s2 R2 e2a F2=>?_
  have keep:∀{g1 g2:Ht->Own} {h1a h2a:Heap} {m:List (Option AV)},Fra C env m g1 h1a->Evo C.W (FX C.nm env) C.Y g1 h1a g2 h2a->(∀a∈ws,Priv C.W g1 h1a a)->(∀a∈ws,∀o,h1a.get? a=ER o->h2a.get? a=ER o)/\∀a∈ws,Priv C.W g2 h2a a:=λ{g1 g2 h1a h2a m} F e hP=>
    ⟨λa ha o ho=>(Priv.keep F e (hP a ha) ho).1,λa ha=>by refine qa4 ((hP a ha).obj) ?_;intro o ho _;exact (Priv.keep F e (hP a ha) ho).2⟩
  refine AC ?_ (keep F1 e2a hP1);intro k2 hP2;have S2:=AIt.St.mono e2a F1.xok k2 ai (.inr hp) S1;have a2:=Acc.frame F1 e2a a1a;refine hb A env g2 s2 rm R2 F2 _ _ λg3 s3 R3 e3a=>?_
  have F3:=F2.up e3a;have a3:=a2.up e3a;have hP3:∀a∈ws,Priv C.W g3 s3.heap a:=λa ha=>by refine qa4 ((hP2 a ha).obj) ?_;intro o ho _;exact (Iap e3a (hP2 a ha) ho).2
  have S3:=AIt.St.mono e3a XOk.no (λa ha o ho=>(Iap e3a (hP2 a ha) ho).1) ai (.inr hp) S2;have e13:Evo C.W (λa=>FX C.nm env a\/a=D\/a∈ws) C.Y g s.heap g3 s3.heap:=((e1a.inX λ_ q=>.inr (.inr q)).toY.trans (e2a.inX λ_ q=>.inl q)).trans e3a.toX;rcases hn with ⟨rfl,hn⟩ | ⟨rfl,rfl,rfl,rfl⟩
  . rw[if_pos rfl];refine hn A env g3 s3 D rm R3 F3 a3 _ _ λg4 s4 R4 e4 F4 a4=>?_
    have hXo:XOk (λa=>FX C.nm env a\/a=D) g3 s3.heap:=λb hb=>by
      rcases hb with hb | rfl
      . exact F3.xok b hb
      . exact Priv.xok (C:=(·=b)) (λc q=>q ▸ a3.priv) b rfl
    have k4:∀a∈ws,∀o,s3.heap.get? a=ER o->s4.heap.get? a=ER o/\Priv C.W g4 s4.heap a:=λa ha o ho=>by
      refine qbl ((hP3 a ha).obj) ?_;intro o' ho' hd hc hk;rw[ho] at ho';obtain rfl:=Sj ho';have hx:¬(FX C.nm env a\/a=D):=λq=>by
        rcases q with (rfl | ⟨i,x,hi,hcl⟩) | rfl
        . refine qa4 (F3.ns) ?_;intro mh ne_9_1 _;refine qap ne_9_1 ?_;intro oL es ep hL hLd _;rw[ho] at hL;obtain rfl:=Sj hL;exact hd _ _ hLd
        . refine qaz (F3.cell i x .cell hi rfl) ?_;intro c ov h3 h4 h5 _;rw[hcl] at h3;obtain rfl:=Sj h3;rw[ho] at h5;obtain rfl:=Sj h5;exact hc _ rfl
        . exact hD ha
      have h1:=(e4.keep a o ho hx (.inr ⟨(hP3 a ha).own,Iax (hP3 a ha).new⟩)).get hk.2;refine ⟨h1,?_,(hP3 a ha).new,o,h1,hd,hc,hk⟩;rcases e4.oth a o ho (hP3 a ha).own hx with q | ⟨_,v,q⟩
      . exact q
      . rw[h1] at q;obtain rfl:=Sj q;exact absurd rfl (hc v)
    have S4:=AIt.St.mono e4 hXo (λa ha o ho=>(k4 a ha o ho).1) ai (.inr hp) S3;exact hr A env g4 s4 it ws D rm R4 F4 S4 (λa ha=>by refine qa4 ((hP3 a ha).obj) ?_;intro o ho _;exact (k4 a ha o ho).2) a4 hD Rr λg5 s5 R5 e5 F5 a5=>
      hR g5 s5 R5 ((e13.trans (e4.inX λb q=>q.elim .inl λq=>.inr (.inl q))).trans e5) F5 a5
  . rw[if_neg (by simp)];exact hr A env g3 s3 it ws D rm R3 F3 S3 hP3 a3 hD Rr λg5 s5 R5 e5 F5 a5=>hR g5 s5 R5 (e13.trans e5) F5 a5
end
end
section
theorem qd3 (h : ∀ (i : Nat) (x : Hv), scope.names[i]? = ER (x, .free) -> ∃ c, env.cells.lookup x = ER c):
    ∃ cl, closureFor scope env = pure cl /\ ∀ (i : Nat) (x : Hv), scope.names[i]? = ER (x, .free) -> cl.lookup x = env.cells.lookup x := by
  have key : ∀ (l : List (Hv×AA)) (cs : List (Hv×Ht)), (∀ x c, cs.lookup x = ER c -> env.cells.lookup x = ER c) -> (∀ (i : Nat) (x : Hv), l[i]? = ER (x, .free) -> ∃ c, env.cells.lookup x = ER c) ->
      ∃ cl, (forIn l cs λx c => (if x.2==.free then do let a <- Hf env x.1; pure (.yield ((x.1, a)::c)) else pure (.yield c) : Sem (ForInStep (List (Hv×Ht))))) = pure cl /\
        (∀ x c, cl.lookup x = ER c -> env.cells.lookup x = ER c) /\ (∀ x, cs.lookup x ≠ Dt -> cl.lookup x ≠ Dt) /\ ∀ (i : Nat) (x : Hv), l[i]? = ER (x, .free) -> cl.lookup x ≠ Dt := by
    intro l;induction l with
    | nil => intro cs h1 _; exact ⟨cs, by rw[C5], h1, λ_ h => h, λi x h => by simp at h⟩
    | cons p l ih =>
      intro cs h1 h2;obtain ⟨x, k⟩ := p;rw[Cg];by_cases hk : k = .free
      . subst hk;refine Ap (h2 0 x rfl) ?_;intro c hc;have hcell : Hf env x = pure c := by unfold Hf; rw[hc]
        have hin : ∀ y d, ((x, c)::cs).lookup y = ER d -> env.cells.lookup y = ER d := λy d q => by
          rw[AZ] at q;cases hb : y==x with
          | true => rw[hb] at q; have hyx : y = x := by simpa using hb
                    subst hyx; (first | (have q__ := Sj q; subst q__) | (have q__ := q; subst q__) | cases q); exact hc
          | false => rw[hb] at q; exact h1 y d q
        refine qbl (ih ((x, c)::cs) hin (λi y q => h2 (i+1) y (by simpa using q))) ?_; intro cl e1 e2 e3 e4;refine ⟨cl, ?_, e2, λy q => e3 y ?_, λi y q => ?_⟩
        . simp only[beq_self_eq_true, if_true, hcell, pure_bind];exact e1
        . rw[AZ]; cases hb : y==x with
          | true => simp
          | false => exact q
        . cases i with
          | zero => simp at q; subst q; exact e3 x (by simp)
          | succ i => exact e4 i y (by simpa using q)
      . have hkb : (k==Fd) = Hr := by simpa using hk
        refine qbl (ih cs h1 (λi y q => h2 (i+1) y (by simpa using q))) ?_; intro cl e1 e2 e3 e4;refine ⟨cl, ?_, e2, e3, λi y q => ?_⟩
        . simp only[hkb, Bj, if_false, pure_bind];exact e1
        . cases i with
          | zero => simp at q; exact absurd q.2 hk
          | succ i => exact e4 i y (by simpa using q)
  refine qbl (key scope.names [] (λ_ _ h => by simp at h) h) ?_; intro cl e1 e2 e3 e4;refine ⟨cl, ?_, λi x q => ?_⟩
  . unfold closureFor;have : (forIn scope.names ([] : List (Hv×Ht)) λx c => (if x.2==.free then do let a <- Hf env x.1; pure (.yield ((x.1, a)::c)) else pure (.yield c) : Sem (ForInStep (List (Hv×Ht))))) = pure cl := e1;exact (congrArg (· >>= λr => pure r) this).trans rfl
  . cases hc : cl.lookup x with
    | none => exact absurd hc (e4 i x q)
    | some c => exact (e2 x c hc).symm
theorem qcj:∀{names:List (Hv×AA)} {x:Hv} {k:AA},names.lookup x=ER k ->
    ∃k',(names.map λ(n,k)=>if (k==Fd&&env.scope.kind==.function&&env.kindOf n==ER .cell) then (n,AA.cell) else (n,k)).lookup x=ER k'/\kcl k'=kcl k
  | [],_,_,h=>by simp at h
  | (n,k0)::r,x,k,h=>by
    show ∃k',List.lookup x ((if (k0==Fd&&env.scope.kind==.function&&env.kindOf n==ER .cell)=Hq then (n,AA.cell) else (n,k0))::_)=ER k'/\_;cases hx:x==n with
    | true=>
      simp only[AZ,hx] at h;obtain rfl:=Sj h;by_cases hc:(k0==Fd&&env.scope.kind==.function&&env.kindOf n==ER .cell)=Hq
      . rw[if_pos hc];refine ⟨.cell,by simp only[AZ,hx],?_⟩;simp at hc;rw[hc.1.1];rfl
      . rw[if_neg hc];exact ⟨k0,by simp only[AZ,hx],rfl⟩
    | false=>
      simp only[AZ,hx] at h;by_cases hc:(k0==Fd&&env.scope.kind==.function&&env.kindOf n==ER .cell)=Hq
      . rw[if_pos hc];simp only[AZ,hx];exact qcj h
      . rw[if_neg hc];simp only[AZ,hx];exact qcj h
structure CompIn (C:Cx) (m:List (Option AV)) (names:List (Hv×AA)) (m0:List (Option AV)):Prop where
  nd:∀(i j:Nat) (x:Hv) (k k':AA),names[i]?=ER (x,k)->names[j]?=ER (x,k')->i=j
  len:m0.length=names.length
  free:∀(i:Nat) (x:Hv),names[i]?=ER (x,.free)->∃(j:Nat) (kd:AA),C.nm[j]?=ER (x,kd)/\kcl kd=1/\∀av,m0[i]?=ER (ER av)->m[j]?=ER (ER av)
  rest:∀(i:Nat) (x:Hv) (k:AA),names[i]?=ER (x,k)->k≠.free->∀av,m0[i]?≠ER (ER av)
  pl:(∀(i:Nat) (x:Hv),names[i]?≠ER (x,.cell))\/∀(i:Nat) (av:AV),m0[i]?=ER (ER av)->plain av=Hq
theorem qc9 (nd:∀(i j:Nat) (x:Hv) (k k':AA),names[i]?=ER (x,k)->names[j]?=ER (x,k')->i=j):∀(i:Nat) (x:Hv) (k:AA),names[i]?=ER (x,k)->names.lookup x=ER k:=by
  induction names with
  | nil=>intro i x k h;simp at h
  | cons p l ih=>
    intro i x k h;obtain ⟨y,k'⟩:=p;rw[AZ];cases i with
    | zero=>simp at h;rw[h.1,h.2];simp
    | succ i=>
      have hb:(x==y)=Hr:=by
        have:x≠y:=λq=>by subst q;have:=nd (i+1) 0 x k k' h rfl;lia
        simpa using this
      rw[hb];exact ih (λi j x k k' h1 h2=>by have:=nd (i+1) (j+1) x k k' (by simpa using h1) (by simpa using h2);lia) i x k (by simpa using h)
section
variable {m0 mc:List (Option AV)} {acc':List AV}
theorem qip {rest:List DQ}{use:Option (Hw->Sem Unit)}(hk:scope.kind=.function)(hi:ItE C k fr m σ iter ai z1)(hin:CompIn C m scope.names m0)(hc:CompC { C with nm:=scope.names } k fr elt (⟨t,iter,ifs,0⟩::rest) scope pos 0 ai 0 m0 z1 [] mc z' acc')(hs:∀x env,BG iter env x=pure x){s:Ab}(rm:Room k fr A)(R:Rep C.W fr g σ s)(F:Fra C env m g s.heap)(hQ:∀g' s' D L,Rep C.W fr g' z' s'->Evo C.W noX C.Y g s.heap g' s'.heap->RV C.W g' s'.heap (.lst acc') (.ref D)->s.heap.get? L=Dt->g' L=.other->(∃mh,s'.heap.Ns L mh)->C.W.s1.heap.get? L=Dt ->
      compPost (Hu C.W.prog C.W.w) A E use Q (.ref D) L (.ok .next) s'):
    Hs (Hu C.W.prog C.W.w) A (comprehension (.ListComp elt (⟨t,iter,ifs,0⟩::rest) scope pos) scope env p (newList []) Hr (eval iter env) use) Q E s:=by
  obtain ⟨cl,hcl,hlk⟩:=qd3 (scope:=scope) (env:=env) λi x hx=>by
    refine qa2 (hin.free i x hx) ?_;intro j kd h1 h2 h3;refine qcs (F.cell j x kd h1 h2) ?_;intro c ov h4 _;exact ⟨c,h4⟩
  refine wpAny_comprehension_free (g:=⟨t,iter,ifs,0⟩) rfl (λx=>hs x env) hcl hk (λx hx hl=>by
    obtain ⟨i,hi,hx'⟩:=D9.mp hx;obtain ⟨y,ky⟩:=x;obtain rfl:ky=.local:=hl;exact qc9 hin.nd i y _ (by rw[Aj hi,hx'])) ?_
  refine hi A env g s rm R F _ _ λit g1 s1a ws R1 e1a S hP hf=>?_
  refine Bx (AD (Q:=λcenv s4=>Cn (Hu C.W.prog C.W.w) A (.compStart (.ListComp elt (⟨t,iter,ifs,0⟩::rest) scope pos) 0 it (.ref s1a.heap.objs.size) { cenv with scope:=Hk scope env }) (compPost (Hu C.W.prog C.W.w) A E use Q (.ref s1a.heap.objs.size) cenv.locals) s4) ?_ (λcenv s4 h=>h) λ_ _ e=>e) (by size_fits);refine qgb (R1.newPriv { cls:=.type "list",data:=.seq ([]:List Hw).toArray } rfl (nds rfl rfl rfl)) ?_;intro R2 e2a p2;have hD2:(s1a.heap.push { cls:=.type "list",data:=.seq ([]:List Hw).toArray }).get? s1a.heap.objs.size=ER (qa8 ([]:List Hw).toArray 0):=Al _ rfl;have A2:Acc C.W g1 (s1a.heap.push { cls:=.type "list",data:=.seq ([]:List Hw).toArray }) s1a.heap.objs.size []:=⟨p2,⟨_,_,hD2,rfl⟩,rfl⟩
  have F2:=(F.up e1a).up e2a;have hDn:s.heap.get? s1a.heap.objs.size=Dt:=Iaw R e1a R1 (qag _);have hD:s1a.heap.objs.size∉ws:=λq=>by refine qa4 ((hP _ q).obj) ?_;intro o ho _;rw[qag] at ho;cases ho
  rw[show env.globals=Br from F.glob];refine qct (C:={ C with nm:=scope.names }) (xs:=[]) (vs:=[]) (us:=[]) (m0:=m0) (m1:=m0) rfl hin.nd hk (qc9 hin.nd) (by exact F.code) (λo h=>by obtain rfl:=Sj h;exact F.blt) R2 (λi x kd hx=>⟨λhkf=>?_,λhkf=>hin.rest i x kd hx hkf⟩) hin.pl .nil rfl hin.len λcenv g3 s3 R3 e3a F3 hsc hL hcells hown _ hfr _=>?_
  . subst hkf;refine qa2 (hin.free i x hx) ?_;intro j kj h1 h2 h3;refine qan (F2.cell j x kj h1 h2) ?_;intro c ov h4 h5 h6 h7 h8;exact ⟨c,ov,by rw[hlk i x hx];exact h4,h5,h6,h7,λav q=>h8 av (h3 av q)⟩
  . have F3':Fra { C with nm:=scope.names } { cenv with scope:=Hk scope env } m0 g3 s3.heap:={ F3 with
        kind:=hk
        names:=λi x kd hx=>by
          refine qa4 (qcj (env:=env) (qc9 hin.nd i x kd hx)) ?_;intro k' h1 h2;exact ⟨k',h1,h2⟩ }
    have S2:=AIt.St.mono e2a XOk.no (λa ha o ho=>(Iap e2a (hP a ha) ho).1) ai (.inl λ_ q=>q.elim) S;have hP2:∀a∈ws,Priv C.W g1 (s1a.heap.push { cls:=.type "list",data:=.seq ([]:List Hw).toArray }) a:=λa ha=>by
      refine qa4 ((hP a ha).obj) ?_;intro o' ho' _;exact (Iap e2a (hP a ha) ho').2
    have S3:=AIt.St.mono e3a XOk.no (λa ha o ho=>(Iap e3a (hP2 a ha) ho).1) ai (.inl λ_ q=>q.elim) S2;have hP3:∀a∈ws,Priv C.W g3 s3.heap a:=λa ha=>by
      refine qa4 ((hP2 a ha).obj) ?_;intro o' ho' _;exact (Iap e3a (hP2 a ha) ho').2
    have A3:=A2.up e3a;have e13:Evo C.W noX C.Y g s.heap g3 s3.heap:=(e1a.trans e2a.no).trans e3a.no;have hLn:s.heap.get? cenv.locals=Dt:=Iaw R (e1a.trans e2a.no) R2 hL;have hcn:∀b,FX scope.names { cenv with scope:=Hk scope env } b->s.heap.get? b=Dt:=λb hb=>by
      rcases hb with rfl | ⟨i,x,hx,hc⟩
      . exact hLn
      . exact Iaw R (e1a.trans e2a.no) R2 (hown i x b hx hc)
    have loop:Cn (Hu C.W.prog C.W.w) A (.compLoop (.ListComp elt (⟨t,iter,ifs,0⟩::rest) scope pos) 0 it (.ref s1a.heap.objs.size) { cenv with scope:=Hk scope env }) (compPost (Hu C.W.prog C.W.w) A E use Q (.ref s1a.heap.objs.size) cenv.locals) s3:=by
      refine hc A { cenv with scope:=Hk scope env } g3 s3 it ws s1a.heap.objs.size rm R3 F3' S3 hP3 A3 hD _ λg4 s4 R4 e4 F4 A4=>?_
      have e14:Evo C.W noX C.Y g s.heap g4 s4.heap:=((e13.toX (X:=λa=>FX scope.names { cenv with scope:=Hk scope env } a\/a=s1a.heap.objs.size\/a∈ws)).trans e4).weak R.low (λb o ho q=>by
        rcases q with q | q | q
        . rw[hcn b q] at ho;cases ho
        . subst q;rw[hDn] at ho;cases ho
        . rw[hf b q] at ho;cases ho) λ_ q=>q
      refine qcs (A4.obj) ?_;intro vs n hDo hDr;have hX:∀b,b=s1a.heap.objs.size->Priv C.W g4 s4.heap b:=λb q=>q ▸ A4.priv
      obtain ⟨R5,e5⟩:=R4.turn2 (g':=qbw g4 s1a.heap.objs.size .fz) (h':=s4.heap) s4.toks (·=s1a.heap.objs.size) hX (λb o _ q=>qa5 q) (λb q=>by subst q;exact .inr ⟨qa3,_,hDo⟩) (λb q=>.inl (by
          rw[qa5 (λq'=>by subst q';rw[hDo] at q;cases q)];exact R4.newO q)) (λb o q _=>q)
      have e15:Evo C.W noX C.Y g s.heap (qbw g4 s1a.heap.objs.size .fz) s4.heap:=((e14.toX (X:=(·=s1a.heap.objs.size))).trans e5.toY).weak R.low (λb o ho q=>by subst q;rw[hDn] at ho;cases ho) λ_ q=>q
      have hLD:cenv.locals≠s1a.heap.objs.size:=λq=>by
        refine qa4 (F4.ns) ?_;intro mh ne_18_1 _;refine qap ne_18_1 ?_;intro oL es ep h1 h2 _;have h1':s4.heap.get? cenv.locals=ER oL:=h1;rw[q,hDo] at h1';obtain rfl:=Sj h1';cases h2
      refine hQ (qbw g4 s1a.heap.objs.size .fz) s4 s1a.heap.objs.size cenv.locals R5 e15 ⟨_,vs,n,rfl,qa3,hDo,hDr.mono e5 (Priv.xok hX) acc' (.inl λb q=>(hX b q).own) _⟩ hLn (by rw[qa5 hLD];exact F4.Lo) ?_ F4.Lz;refine qa4 (F4.ns) ?_;intro mh h1 _;exact ⟨mh,h1⟩
    exact qbx (t:=t) (iter:=iter) (ifs:=ifs) rfl loop (Idc S3 loop)
theorem qgn {s s0:Ab}{g0:Ht->Own}{L:Ht}(R0:Rep W fr g0 z1 s0)(R:Rep W fr g σ s)(hL0:s0.heap.get? L=Dt)(hLg:g L=.other)(hL1:W.s1.heap.get? L=Dt)(hns:∃mh,s.heap.Ns L mh)(hs:AI L s.heap h'):
    Rep W fr g σ { s with heap:=h' }/\Evo W (·=L) noY g s.heap g h'/\XOk (·=L) g s.heap:=by
  refine qdp (hns) ?_;intro mh oL es ep h1 h2 _;have hX:XOk (·=L) g s.heap:=λa ha=>by
    subst ha;exact ⟨.inl hLg,λo vs ho hd=>by rw[h1] at ho;obtain rfl:=Sj ho;rw[h2] at hd;cases hd⟩
  obtain ⟨R',e'⟩:=R.turn3 (g':=g) (h':=h') s.toks (·=L) (λa ha=>ha ▸ ⟨hLg,hL1⟩) hX (λen he f hf q=>by
    refine qdp (R0.frs en he) ?_;intro f' o es' ep' h3 h4 _;rw[hf] at h3;obtain rfl:=Sj h3;subst q;rw[hL0] at h4;cases h4) (λ_ _=>rfl) (λa ha=>.inl (ha ▸ hLg)) (λa o ho ha=>(hs.2 a ha).trans ho)
  exact ⟨R',e',hX⟩
theorem Iao {rest:List DQ}(hi:ItE C k fr m σ iter ai z1)(hin:CompIn C m scope.names m0)(hc:CompC { C with nm:=scope.names } k fr elt (⟨t,iter,ifs,0⟩::rest) scope pos 0 ai 0 m0 z1 [] mc z' acc')(hk:autoParam (scope.kind=.function) ap0._auto_1)(hs:autoParam (∀x env,BG iter env x=pure x) ap0._auto_1):
    Ev C k fr m σ (.ListComp elt (⟨t,iter,ifs,0⟩::rest) scope pos) (.lst acc') z':=λA env g s rm R F Q E hQ=>by
  rw[eval_ListComp];refine qip (use:=Dt) hk hi hin hc hs rm R F λg' s' D L R' e' rv hL0 hLg hns hL1=>?_
  obtain ⟨mh,hn⟩:=id hns;refine ⟨mh,hn,λh' hs'=>?_⟩;refine qgb (qgn R R' hL0 hLg hL1 hns hs') ?_;intro R2 e2a hX;exact hQ _ g' _ R2 (((e'.toX (X:=(·=L))).trans e2a.toY).weak R.low (λb o ho q=>by subst q;rw[hL0] at ho;cases ho) λ_ q=>q) (rv.mono e2a hX _ (.inl λb q=>q ▸ hLg) _)
theorem Iar {rest:List DQ}(hx:C.nm[i]?=ER (x,.local))(hi:ItE C k fr m σ iter ai z1)(hin:CompIn C m scope.names m0)(hc:CompC { C with nm:=scope.names } k fr elt (⟨t,iter,ifs,0⟩::rest) scope pos 0 ai 0 m0 z1 [] mc z' acc')(hp:plains acc'=Hq)(hk:autoParam (scope.kind=.function) ap0._auto_1)(hs:autoParam (∀x env,BG iter env x=pure x) ap0._auto_1):
    Ex C k fr m σ (.Assign [.Name x px] (.ListComp elt (⟨t,iter,ifs,0⟩::rest) scope pos) p) .next (m.set i (ER (.lst acc'))) z':=λA env g s rm R F Q E hQ=>by
  refine qa4 (F.names i x _ hx) ?_;intro k' h3 h4;have hkk:k'=.local:=by cases k' <;> first | rfl | (exact absurd h4 (by decide))
  subst hkk;have hsw:∀b,swapsWith (.ListComp elt (⟨t,iter,ifs,0⟩::rest) scope pos) (ER (.Name x px)) p.line env=pure b->Hs (Hu C.W.prog C.W.w) A (exec (.Assign [.Name x px] (.ListComp elt (⟨t,iter,ifs,0⟩::rest) scope pos) p) env) Q E s:=λb hb=>by
    cases b with
    | false=>
      refine CW (Iao hi hin hc hk hs A env g s rm R F _ _ λv' g1 s1a R1 e1a rv=>?_) hb (by rfl);show Hs _ A (G7 v' ((C4 [.Name x px] env).map (·.2))) _ _ _;rw[show (C4 [.Name x px] env).map (·.2)=[PySem.assign (.Name x px) env] from rfl];exact Ibs (p:=px) hx (av:=.lst acc') hp A env g1 s1a v' rm R1 (F.up e1a) rv _ _ λg2 s2 R2 e2a F2=>hQ _ g2 s2 R2 (e1a.toX.trans e2a) F2 rfl
    | true=>
      rw[exec_Assign_Name_used _ _ _ _ hb];refine Aa (AS (Aa ?_));show Hs _ A (do let _ <- comprehension (.ListComp elt (⟨t,iter,ifs,0⟩::rest) scope pos) scope env _ (newList []) Hr (eval iter env) (ER (PySem.assign (.Name x px) env))) _ _ s;refine Aa (AD (Q:=λ_ s'=>Q .next s') (qip (use:=ER (PySem.assign (.Name x px) env)) (Q:=λ_ s'=>Q .next s') hk hi hin hc hs rm R F λg' s' D L R' e' rv hL0 hLg hns hL1=>?_) (λ_ s' hq=>Ad (Ad hq)) λ_ _ e=>e);have F':=F.up e';refine Ibs (p:=px) hx (av:=.lst acc') hp A env g' s' (.ref D) rm R' F' rv _ _ λg2 s2 R2 e2a F2=>?_
      have hLx:¬FX C.nm env L:=λq=>by
        rcases q with rfl | ⟨j,y,hj,hc⟩
        . refine qa4 (F.ns) ?_;intro mh ne_25_1 _;refine qbs ne_25_1 ?_;intro oL es ep hL _;rw[hL0] at hL;cases hL
        . refine qaz (F.cell j y .cell hj rfl) ?_;intro c ov h5 h6 h7 _;rw[hc] at h5;obtain rfl:=Sj h5;rw[hL0] at h7;cases h7
      refine qdp (id hns) ?_;intro mh oL es ep h5 h6 h7;refine qaj ((e2a.keep L oL h5 hLx (.inr ⟨hLg,Iax hL1⟩)).ex) ?_;intro oL' h5' h6' _;rw[h6] at h6';have hLg2:g2 L=.other:=by
        rcases e2a.oth L oL h5 hLg hLx with q | ⟨_,v,q⟩
        . exact q
        . rw[h5'] at q;obtain rfl:=Sj q;cases h6'
      have hns2:s2.heap.Ns L mh:=⟨oL',es,ep,h5',h6',h7⟩
      refine ⟨mh,hns2,λh' hs'=>?_⟩;refine qgb (qgn R R2 hL0 hLg2 hL1 ⟨mh,hns2⟩ hs') ?_;intro R3 e3a hX;have hxc:∀(c:Ht) (v:Option Hw),c=L->s2.heap.get? c≠ER (qat v):=λc v q r=>by
        subst q;rw[h5'] at r;obtain rfl:=Sj r;cases h6'
      have hxL:¬env.locals=L:=λq=>hLx (.inl q.symm)
      have F3:=F2.turn3 hX (λb q=>q ▸ hLg2) hxL hxc e3a;refine hQ _ g2 _ R3 ?_ F3 rfl;exact (((e'.toX (X:=λa=>FX C.nm env a\/a=L)).trans (e2a.inX λ_ q=>.inl q)).trans (e3a.inX λ_ q=>.inr q).toY).weak R.low (λb o ho q=>by
        rcases q with q | q
        . exact q
        . subst q;rw[hL0] at ho;cases ho) λ_ q=>q
  exact hsw _ rfl
end
end
section
theorem qce {s:Ab}(turn:Hs (Hu prog w) A (isTrue test env (eval test env)) (λb s2=>
        if b then Hs (Hu prog w) A (execs body env) (λf s3=>match f with
            | .next | .cont=>Cn (Hu prog w) A (.whileLoop test body orelse env) R s3
            | .brk=>R (.ok .next) s3
            | .ret v=>R (.ok (.ret v)) s3) (DZ (Hu prog w) A env λe s'=>R (.error e) s') s2
        else Hs (Hu prog w) A (execs orelse env) (λf s3=>R (.ok f) s3) (DZ (Hu prog w) A env λe s'=>R (.error e) s') s2)
        (DZ (Hu prog w) A env λe s'=>R (.error e) s') s):Cn (Hu prog w) A (.whileLoop test body orelse env) R s:=by
  refine DO ?_;show Hs _ A ((whileTurn test body orelse env).onRaise (λx=>do Ha x env;GO x)) _ _ s;refine wpAny_noted ?_;simp only[whileTurn];refine Aa (AD turn (λb s2 h2a=>?_) λ_ _ h'=>h');cases b with
  | false=>
    simp only[Bj,if_false] at h2a ⊢;exact Aa (AD h2a (λf s3 h3=>Ad h3) λ_ _ h'=>h')
  | true=>
    simp only[if_true] at h2a ⊢;refine Aa (AD h2a (λf s3 h3=>?_) λ_ _ h'=>h');cases f with
    | next=>exact Ad ⟨rfl,h3⟩
    | cont=>exact Ad ⟨rfl,h3⟩
    | brk=>exact Ad h3
    | ret v=>exact Ad h3
def WhileC (C:Cx) (k:Nat) (fr:List HA) (test:Expr) (body orelse:List Stmt) (m:List (Option AV)) (σ:List AObj) (fl:AFl) (m':List (Option AV)) (z':List AObj):Prop:=
  ∀(A:BJ) (env:HA) (g:Ht->Own) (s:Ab),Room k fr A->Rep C.W fr g σ s->Fra C env m g s.heap->∀(R:Ho->Ab->Prop),
    (∀f' g' s',Rep C.W fr g' z' s'->Evo C.W (FX C.nm env) C.Y g s.heap g' s'.heap->Fra C env m' g' s'.heap->RFl C.W g' s'.heap fl f'->R (.ok f') s')->Cn (Hu C.W.prog C.W.w) A (.whileLoop test body orelse env) R s
section
theorem Ib1 (ht:Tr C k fr m σ test Hr z1)(ho:Exs C k fr m z1 orelse fl m' z'):WhileC C k fr test body orelse m σ fl m' z':=λA env g s rm R F Rr hR=>by
  refine qce (ht A env g s rm R F _ _ λg1 s1a R1 e1a=>?_);rw[if_neg (by simp)];exact ho A env g1 s1a rm R1 (F.up e1a) _ _ λf' g2 s2 R2 e2a F2 hf=>hR f' g2 s2 R2 (e1a.toX.trans e2a) F2 hf
theorem WhileC.next (ht:Tr C k fr m σ test Hq z1)(hb:Exs C k fr m z1 body .next m1 z2)(hr:WhileC C k fr test body orelse m1 z2 fl m' z'):WhileC C k fr test body orelse m σ fl m' z':=λA env g s rm R F Rr hR=>by
  refine qce (ht A env g s rm R F _ _ λg1 s1a R1 e1a=>?_);rw[if_pos rfl];refine hb A env g1 s1a rm R1 (F.up e1a) _ _ λf' g2 s2 R2 e2a F2 hf=>?_
  obtain rfl:f'=.next:=hf;exact hr A env g2 s2 rm R2 F2 Rr λf' g3 s3 R3 e3a F3 hf=>hR f' g3 s3 R3 ((e1a.toX.trans e2a).trans e3a) F3 hf
theorem Iam (h:WhileC C k fr test body orelse m σ fl m' z'):Ex C k fr m σ (.While test body orelse p) fl m' z':=λA env g s rm R F Q E hQ=>
  wpAny_While (h A env g s rm R F _ λf' g' s' R' e' F' hf=>hQ f' g' s' R' e' F' hf)
theorem qcl (hi:C.nm[i]?=ER (x,kd))(hk:kd=.local\/kd=.cell)(hp:plain av=Hq){s:Ab}{v:Hw}(R:Rep C.W fr g σ s)(F:Fra C env m g s.heap)(r:RV C.W g s.heap av v){Q:Unit->Ab->Prop}(hQ:∀g' s',Rep C.W fr g' σ s'->Evo C.W (FX C.nm env) noY g s.heap g' s'.heap->Fra C env (m.set i (ER av)) g' s'.heap->Q () s'):Hs (Hu C.W.prog C.W.w) A (FH env x v) Q E s:=by
  rcases hk with rfl | rfl
  . exact qbn hi (.inl hp) R F r hQ
  . exact qep hi hp R F r hQ
theorem As.name (hi:C.nm[i]?=ER (x,kd))(hp:plain av=Hq)(hk:autoParam (kd=.local\/kd=.cell) ap1._auto_1):As C k fr m σ (.Name x p) av (m.set i (ER av)) σ:=λA env g s v rm R F r Q E hQ=>by
  show Hs _ A (Dx p >>= λ_=>Fj env x v) Q E s;exact Aa (AS (CK (qcl hi hk hp R F r λg1 s1a R1 e1a F1=>hQ g1 s1a R1 e1a.toY F1)))
def AsL (C:Cx) (k:Nat) (fr:List HA) (m:List (Option AV)) (σ:List AObj) (ts:List Expr) (vs:List AV) (m':List (Option AV)) (z':List AObj):Prop:=
  ∀(A:BJ) (env:HA) (g:Ht->Own) (s:Ab) (us:List Hw),Room k fr A->Rep C.W fr g σ s->Fra C env m g s.heap->RVs C.W g s.heap vs us->∀(Q:Unit->Ab->Prop) (E:Hw->Ab->Prop),
    (∀g' s',Rep C.W fr g' z' s'->Evo C.W (FX C.nm env) C.Y g s.heap g' s'.heap->Fra C env m' g' s'.heap->Q () s')->Hs (Hu C.W.prog C.W.w) A (assignInOrder ((C4 ts env).map (·.2)) us) Q E s
theorem AsL.nil:AsL C k fr m σ [] [] m σ:=λA env g s us rm R F r Q E hQ=>Ad (hQ g s R Evo.refl F)
theorem AsL.cons {ts:List Expr}(h1:As C k fr m σ t v m1 z1)(h2:AsL C k fr m1 z1 ts vs m' z')(hp:autoParam (plains vs=Hq) ap0._auto_1)(he:autoParam (∀env,C4 (t::ts) env=(Hr,PySem.assign t env)::C4 ts env) ap0._auto_1):
    AsL C k fr m σ (t::ts) (v::vs) m' z':=λA env g s us rm R F r Q E hQ=>by
  refine qa2 (r) ?_;intro u q eq_0_2 r1 r2;subst eq_0_2;rw[he];show Hs _ A (do Ea q (PySem.assign t env u);assignInOrder ((C4 ts env).map (·.2)) q) Q E s;refine Aa (AK (h1 A env g s u rm R F r1 _ _ λg1 s1a R1 e1a F1=>?_));exact h2 A env g1 s1a q rm R1 F1 (r2.mono e1a F.xok vs (.inr hp) _) Q E λg2 s2 R2 e2a F2=>hQ g2 s2 R2 (e1a.trans e2a) F2
theorem qg0 {s:Ab}(R:Rep W fr g σ s)(hs:Ga s.heap.objs.size s.heap h'):Rep W fr g σ { s with heap:=h' }/\Evo W noX noY g s.heap g h':=
  R.keepsAll λa o ho=>hs a o (qgj ho) ho
theorem As.tuple {ts:List Expr}(h:AsL C k fr m σ ts vs m' z')(hl:autoParam (∀env,(C4 ts env).length=vs.length) ap0._auto_1)(hstar:autoParam (∀env,(C4 ts env).findIdx? (·.1)=Dt) ap0._auto_1):
    As C k fr m σ (.Tuple ts n p) (.tup vs) m' z':=λA env g s v rm R F r Q E hQ=>by
  refine qa1 (r) ?_;intro a us n' eq_1_3 hg ho hr;subst eq_1_3;refine wpAny_assign_Tuple rm.handled ⟨_,ho,rfl,n',rfl⟩ (by rw[hl,<- hr.length,Az]) (hstar env) λh' hs=>?_
  refine AC ?_ (qg0 R hs);intro R1 e1a;exact h A env g _ _ rm R1 (F.up e1a) (hr.up e1a) Q E λg2 s2 R2 e2a F2=>hQ g2 s2 R2 (e1a.no.toX.trans e2a) F2
theorem qhm {names ids:List Hv}{P:Prop}{U:Sem (Option (List Hv))}{b1 b2 b3 b4:Bool}(h2:b2=Hr)(hc:b3=Hq\/b4=Hr)(hn:names.length=ids.length->names=ids/\P){r:Sem (Option (List Hv))}(hr:r=(if b1=Hq then pure Dt else if b2=Hq then pure Dt else if (names.length != ids.length||names.eraseDups.length != names.length)=Hq then pure Dt else if b3=Hq then pure Dt else if b4=Hq then U else pure (ER names))):r=pure Dt\/(r=pure (ER ids)/\P):=by
  subst hr h2;cases b1
  . by_cases h:(names.length != ids.length||names.eraseDups.length != names.length)=Hq
    . exact .inl (if_pos h)
    . have hl:names.length=ids.length:=by
        rcases Nat.decEq names.length ids.length with q | q
        . exact absurd (Bool.or_eq_true_iff.mpr (.inl (bne_iff_ne.mpr q))) h
        . exact q
      cases b3
      . obtain rfl:=hc.resolve_left AL;exact .inr ⟨(if_neg h).trans (congrArg (λx=>pure (ER x)) (hn hl).1),(hn hl).2⟩
      . exact .inl (if_neg h)
  . exact .inl rfl
theorem qnw {c:Hv×Pos->Bool}:∀l:List (Hv×Pos),(l.filterMap λq=>if c q=Hq then ER q.1 else Dt).length<=l.length/\((l.filterMap λq=>if c q=Hq then ER q.1 else Dt).length=l.length->(l.filterMap λq=>if c q=Hq then ER q.1 else Dt)=l.map (·.1)/\∀q∈l,c q=Hq)
  | []=>⟨Aq _,λ_=>⟨rfl,λ_ h=>absurd h BN⟩⟩
  | a::l=>by
    have ih:=qnw (c:=c) l;rw[FA];cases h:c a with
    | false=>
      rw[if_neg AL];exact ⟨D3 ih.1,λq=>absurd (Dq ih.1) (A9.mpr (Bn q.symm))⟩
    | true=>
      rw[if_pos rfl];refine ⟨E0 ih.1,λq=>?_⟩;refine AC ?_ (ih.2 (Nat.succ.inj q));intro h1 h2;exact ⟨congrArg (a.1 :: ·) h1,List.forall_mem_cons.mpr ⟨h,h2⟩⟩
theorem kl {b:Bool}(h:(env.kindOf x==ER .local&&b)=Hq):env.kindOf x=ER .local:=by simp at h;exact h.1
theorem qvn {y:Hv}{e2:Expr}(hst:([e1,e2].any λ| .Starred ..=>Hq | _=>Hr)=Hr)(hc:([e1,e2].all (Gk 8)=Hq)\/[e1,e2].all (FS 8)=Hr):
    DR [.Tuple [.Name x px,.Name y py] n p] (.Tuple [e1,e2] n' p') env=pure Dt \/
      (DR [.Tuple [.Name x px,.Name y py] n p] (.Tuple [e1,e2] n' p') env=pure (ER [x,y])/\env.kindOf x=ER .local/\env.kindOf y=ER .local):=by
  have hf:=qnw (c:=λq=>env.kindOf q.1==ER .local&&q.2.line==px.line) [(x,px),(y,py)];exact qhm hst hc (λh=>(hf.2 h).imp_right λq=>⟨kl (q _ (.head _)),kl (q _ (.tail _ (.head _)))⟩) rfl
theorem qvm {y z:Hv}{pz:Pos}{e2 e3:Expr}(hst:([e1,e2,e3].any λ| .Starred ..=>Hq | _=>Hr)=Hr)(hc:([e1,e2,e3].all (Gk 8)=Hq)\/[e1,e2,e3].all (FS 8)=Hr):
    DR [.Tuple [.Name x px,.Name y py,.Name z pz] n p] (.Tuple [e1,e2,e3] n' p') env=pure Dt \/
      (DR [.Tuple [.Name x px,.Name y py,.Name z pz] n p] (.Tuple [e1,e2,e3] n' p') env=pure (ER [x,y,z])/\env.kindOf x=ER .local/\env.kindOf y=ER .local/\env.kindOf z=ER .local):=by
  have hf:=qnw (c:=λq=>env.kindOf q.1==ER .local&&q.2.line==px.line) [(x,px),(y,py),(z,pz)];exact qhm hst hc (λh=>(hf.2 h).imp_right λq=>⟨kl (q _ (.head _)),kl (q _ (.tail _ (.head _))),kl (q _ (.tail _ (.tail _ (.head _))))⟩) rfl
theorem qdc {ts:List Expr}{tp:Pos}{value:Expr}{names:List Hv}{s:Ab}{Q:Flow->Ab->Prop}(h:Hs (Hu C.W.prog C.W.w) A (eval value env) (λv s1a=>Hs (Hu C.W.prog C.W.w) A (unpackItems v names.length Dt) (λitems s2=>
      Hs (Hu C.W.prog C.W.w) A (assignInOrder (names.reverse.map λn=>Fj env n) items.reverse) (λ_=>Q .next) E s2) E s1a) E s)(hw:DR [.Tuple ts n tp] value env=pure (ER names))(hs:Gj [.Tuple ts n tp] value p.line env=pure Hr):
    Hs (Hu C.W.prog C.W.w) A (exec (.Assign [.Tuple ts n tp] value p) env) Q E s:=Assign_Tuple_swapped h hs hw
theorem Ic3 {y:Hv}{pt pd:Pos}{e2:Expr}{kx ky:AA}{a b:AV}(he:Ev C k fr m σ (.Tuple [e1,e2] n' pd) (.tup [a,b]) z')(hx:C.nm[i]?=ER (x,kx))(hy:C.nm[j]?=ER (y,ky))(hij:i≠j)(hpa:plain a=Hq)(hpb:plain b=Hq)(hkx:autoParam (kx=.local\/kx=.cell) ap1._auto_1)(hky:autoParam (ky=.local\/ky=.cell) ap1._auto_1)(hst:autoParam (([e1,e2].any λ| .Starred ..=>Hq | _=>Hr)=Hr) ap0._auto_1)(hc:autoParam (([e1,e2].all (Gk 8) || ![e1,e2].all (FS 8))=Hq) ap0._auto_1):
    Ex C k fr m σ (.Assign [.Tuple [.Name x px,.Name y py] n pt] (.Tuple [e1,e2] n' pd) p) .next ((m.set i (ER a)).set j (ER b)) z':=λA env g s rm R F Q E hQ=>by
  rcases qvn (px:=px) (py:=py) (p:=pt) (p':=pd) (n:=n) (n':=n') (x:=x) (y:=y) (env:=env) hst (orB hc) with hw | ⟨hw,hlx,hly⟩
  . refine CW (he A env g s rm R F _ _ λv' g1 s1a R1 e1a rv=>?_) rfl hw;show Hs _ A (G7 v' [PySem.assign (.Tuple [.Name x px,.Name y py] n pt) env]) _ _ _;exact As.tuple (AsL.cons (As.name hx hpa hkx) (AsL.cons (As.name hy hpb hky) AsL.nil) (by show (plain b&&Hq)=Hq;rw[hpb];rfl)) (λ_=>rfl) (λ_=>rfl) A env g1 s1a v' rm R1 (F.up e1a) rv _ _ λg2 s2 R2 e2a F2=>hQ _ g2 s2 R2 (e1a.toX.trans e2a) F2 rfl
  . refine qdc (names:=[x,y]) (he A env g s rm R F _ _ λv' g1 s1a R1 e1a rv=>?_) hw rfl;refine qa1 (rv) ?_;intro t us n'' eq_3_3 hg ho hr;subst eq_3_3;have hsz:us.size=2:=by rw[<- Az,hr.length];rfl
    rw[show ([x,y]:List Hv).length=us.size from hsz.symm];refine wpAny_unpackItems_tuple rm.handled ⟨_,ho,rfl,n'',rfl⟩ λh' hs=>?_
    refine AC ?_ (qg0 R1 hs);intro R2 e2a;have hr2a:=hr.up e2a;refine qa2 (hr2a) ?_;intro u1 q1 hu1 r1 hr1;refine qa2 (hr1) ?_;intro u2 q2 eq_6_2 r2 hr2;subst eq_6_2;obtain rfl:q2=[]:=hr2;rw[hu1];show Hs _ A (do Ea [u1] (Fj env y u2);Ea [] (Fj env x u1);pure ()) _ _ _;have F2:=(F.up e1a).up e2a;refine Aa (AK (CK (qcl hy hky hpb R2 F2 r2 λg3 s3 R3 e3a F3=>?_)));refine Aa (AK (CK (qcl hx hkx hpa R3 F3 (r1.mono e3a F2.xok a (.inr hpa) _) λg4 s4 R4 e4 F4=>?_)));refine Ad (hQ _ g4 s4 R4 (((e1a.trans e2a.no).toX.trans e3a.toY).trans e4.toY) ?_ rfl);rw[Fe _ _ hij];exact F4
theorem Ici {y z:Hv}{pz pt pd:Pos}{e2 e3:Expr}{l:Nat}{kx ky kz:AA}{a b c:AV}(he:Ev C k fr m σ (.Tuple [e1,e2,e3] n' pd) (.tup [a,b,c]) z')(hx:C.nm[i]?=ER (x,kx))(hy:C.nm[j]?=ER (y,ky))(hz:C.nm[l]?=ER (z,kz))(hij:i≠j)(hil:i≠l)(hjl:j≠l)(hpa:plain a=Hq)(hpb:plain b=Hq)(hpc:plain c=Hq)(hkx:autoParam (kx=.local\/kx=.cell) ap1._auto_1)(hky:autoParam (ky=.local\/ky=.cell) ap1._auto_1)(hkz:autoParam (kz=.local\/kz=.cell) ap1._auto_1)(hst:autoParam (([e1,e2,e3].any λ| .Starred ..=>Hq | _=>Hr)=Hr) ap0._auto_1)(hc:autoParam (([e1,e2,e3].all (Gk 8) || ![e1,e2,e3].all (FS 8))=Hq) ap0._auto_1):
    Ex C k fr m σ (.Assign [.Tuple [.Name x px,.Name y py,.Name z pz] n pt] (.Tuple [e1,e2,e3] n' pd) p) .next (((m.set i (ER a)).set j (ER b)).set l (ER c)) z':=λA env g s rm R F Q E hQ=>by
  rcases qvm (px:=px) (py:=py) (pz:=pz) (p:=pt) (p':=pd) (n:=n) (n':=n') (x:=x) (y:=y) (z:=z) (env:=env) hst (orB hc) with hw | ⟨hw,hlx,hly,hlz⟩
  . refine CW (he A env g s rm R F _ _ λv' g1 s1a R1 e1a rv=>?_) rfl hw;show Hs _ A (G7 v' [PySem.assign (.Tuple [.Name x px,.Name y py,.Name z pz] n pt) env]) _ _ _;exact As.tuple (AsL.cons (As.name hx hpa hkx) (AsL.cons (As.name hy hpb hky) (AsL.cons (As.name hz hpc hkz) AsL.nil) (by show (plain c&&Hq)=Hq;rw[hpc];rfl)) (by show (plain b&&(plain c&&Hq))=Hq;rw[hpb,hpc];rfl)) (λ_=>rfl) (λ_=>rfl) A env g1 s1a v' rm R1 (F.up e1a) rv _ _
      λg2 s2 R2 e2a F2=>hQ _ g2 s2 R2 (e1a.toX.trans e2a) F2 rfl
  . refine qdc (names:=[x,y,z]) (he A env g s rm R F _ _ λv' g1 s1a R1 e1a rv=>?_) hw rfl;refine qa1 (rv) ?_;intro t us n'' eq_7_3 hg ho hr;subst eq_7_3;have hsz:us.size=3:=by rw[<- Az,hr.length];rfl
    rw[show ([x,y,z]:List Hv).length=us.size from hsz.symm];refine wpAny_unpackItems_tuple rm.handled ⟨_,ho,rfl,n'',rfl⟩ λh' hs=>?_
    refine AC ?_ (qg0 R1 hs);intro R2 e2a;have hr2a:=hr.up e2a;refine qa2 (hr2a) ?_;intro u1 q1 hu1 r1 hr1;refine qa2 (hr1) ?_;intro u2 q2 eq_10_2 r2 hr2;subst eq_10_2;refine qa2 (hr2) ?_;intro u3 q3 eq_11_2 r3 hr3;subst eq_11_2;obtain rfl:q3=[]:=hr3;rw[hu1];show Hs _ A (do Ea [u2,u1] (Fj env z u3);Ea [u1] (Fj env y u2);Ea [] (Fj env x u1);pure ()) _ _ _;have F2:=(F.up e1a).up e2a;refine Aa (AK (CK (qcl hz hkz hpc R2 F2 r3 λg3 s3 R3 e3a F3=>?_)));refine Aa (AK (CK (qcl hy hky hpb R3 F3 (r2.mono e3a F2.xok b (.inr hpb) _) λg4 s4 R4 e4 F4=>?_)));refine Aa (AK (CK (qcl hx hkx hpa R4 F4 ((r1.mono e3a F2.xok a (.inr hpa) _).mono e4 F3.xok a (.inr hpa) _) λg5 s5 R5 e5 F5=>?_)));refine Ad (hQ _ g5 s5 R5 ((((e1a.trans e2a.no).toX.trans e3a.toY).trans e4.toY).trans e5.toY) ?_ rfl);rw[Fe (ER c) (ER b) (B5 hjl),Fe (ER c) (ER a) (B5 hil),Fe (ER b) (ER a) (B5 hij)] at F5;exact F5
end
end
section
theorem fn_slot_ga:Slot "function" "__getattribute__" "object.__getattribute__":=
  .of (owner := "object") (n := "__getattribute__") (by rw[CQ,BR];kernel_rfl) (by decide +kernel) (by decide +kernel) (by decide +kernel)
    (by first | exact .inl (by decide +kernel) | exact .inr (by decide +kernel)) (by rw[BY];kernel_rfl)
theorem fn_slot_sa:Slot "function" "__setattr__" "object.__setattr__":=
  .of (owner := "object") (n := "__setattr__") (by rw[CQ,BR];kernel_rfl) (by decide +kernel) (by decide +kernel) (by decide +kernel)
    (by first | exact .inl (by decide +kernel) | exact .inr (by decide +kernel)) (by rw[BY];kernel_rfl)
theorem qjn:A6 (.type "function") "__getattr__"=pure Dt:=by rw[CQ,BR];kernel_rfl
theorem qqr:mroOf (.type "function")=pure [.type "function",.type "object"]:=by rw[mroOf_type];kernel_rfl
theorem qef:FI (.type "function") (.type "module")=pure Hr:=by rw[BY];kernel_rfl
theorem qdh:FI (.type "list") (.type "module")=pure Hr:=by rw[BY];kernel_rfl
theorem qg3:FI (.type "dict") (.type "module")=pure Hr:=by rw[BY];kernel_rfl
theorem qgm:A6 (.type "list") "tag"=pure Dt:=by rw[CQ,BR];kernel_rfl
theorem qgr:A6 (.type "dict") "tag"=pure Dt:=by rw[CQ,BR];kernel_rfl
section
theorem qih {g:Array FT}{d:Drawn}{t:Nat}{x dx:Ht}{fd:BV}{mh:Hv->Option Hw}{name:Hv}{v:Hw}{fill expr:Bool}(hx:h.get? x=ER { cls:=.type "function",dict:=ER dx,data:=.func fd })(hn:h.Ns dx mh)(hl:A6 (.type "function") name=pure Dt)(hv:mh name=ER v)(hh:handedOut v=pure v)(hq:Q v ⟨h,g,d,t,os⟩):Hs (Hu prog w) A (Ec (.ref x) (.str name tk) fill expr) Q E ⟨h,g,d,t,os⟩:=by
  have hT:∀tk',(⟨h,g,d,tk',os⟩:Ab).TypeIs (.ref x) "function":=λ_=>⟨_,hx,rfl⟩
  have f3:=fn_slot_ga.lookup;have f4:=fn_slot_ga.bind (.ref x);have f5:=qjn;unfold Ec;repeat (any_goals (first | assumption | exact hT _ | wp_step))
  rw[if_neg (by cases expr <;> simp[onTheHeap])];repeat (any_goals (first | assumption | exact hT _ | ((with_reducible show Hs _ _ (call (Value.builtin "object.__getattribute__") _ _) _ _ _);refine Eb fn_slot_ga (hT _) PySem.F.entry_object_getattribute ?_ (PySem.F.args_object_getattribute_2 _ _)) | (with_reducible refine G1 hn ?_;rw[hv]) | wp_step))
  refine ⟨v,rfl,?_⟩;show Hs _ _ (handedOut v) Q E _;rw[hh];exact Ad hq
theorem qsd {s:Ab}{x dx:Ht}{fd:BV}{mh:Hv->Option Hw}{name:Hv}{v:Hw}{expr:Bool}(hx:s.heap.get? x=ER { cls:=.type "function",dict:=ER dx,data:=.func fd })(hn:s.heap.Ns dx mh)(hl:A6 (.type "function") name=pure Dt)(hv:mh name=ER v)(hh:handedOut v=pure v)(hq:Q v { s with toks:=s.toks+1 }):Hs (Hu prog w) A (Hl (.ref x) name expr) Q E s:=by
  obtain ⟨h,g,d,t,os⟩:=s;unfold Hl;refine Aa ?_;repeat (any_goals (first | (with_reducible exact qih hx hn hl hv hh hq) | wp_step))
set_option maxHeartbeats 1000000 in
theorem qnv {g:Array FT}{d:Drawn}{t:Nat}{x dx:Ht}{fd:BV}{mh:Hv->Option Hw}{name:Hv}(hA:A.handled=Dt)(hx:h.get? x=ER { cls:=.type "function",dict:=ER dx,data:=.func fd })(hn:h.Ns dx mh)(hl:A6 (.type "function") name=pure Dt)(hv:mh name=Dt)(hname:(["__module__", "__name__", "__qualname__", "__doc__", "__annotations__"]:List Hv).contains name=Hr)(hq:∀h' tk e,Gl h h' e "AttributeError"->E (.ref e) ⟨h',g,d,tk,os⟩)(hsz:name.length+100<=Ai):Hs (Hu prog w) A (Ec (.ref x) (.str name tk) Hr Hr) Q E ⟨h,g,d,t,os⟩:=by
  have hT:∀tk',(⟨h,g,d,tk',os⟩:Ab).TypeIs (.ref x) "function":=λ_=>⟨_,hx,rfl⟩
  have f1:=EF;have f3:=fn_slot_ga.lookup;have f4:=fn_slot_ga.bind (.ref x);have f5:=qjn;unfold Ec;repeat (any_goals (first | assumption | exact hT _ | wp_step))
  refine CL fn_slot_ga.plain PySem.F.entry_object_getattribute (fn_slot_ga.check _ _ _ _ _ _ _ _ (hT _) (PySem.F.args_object_getattribute_2 _ _) ?_);show Hs (Hu prog w) A.in1 (Ax.«object.__getattribute__» ⟨[.ref x,.str name tk],[]⟩) _ _ _;unfold Ax.«object.__getattribute__»;repeat (any_goals (first | assumption | exact hT _ | (with_reducible refine G1 hn ?_;rw[hv]) | wp_step))
  rw[hname,if_neg AL];repeat (any_goals (first | assumption | exact hT _ | wp_step))
  refine wpAny_raiseAttrError hA (λh' tk' e hx'=>?_) (PySem.attrMsg_fits (by decide +kernel) hsz);refine qkm (hx'.there) ?_;intro t' u' he;show Hs _ _ (C9 _ _ _ _ _ _ _) _ _ _;unfold C9;repeat (any_goals (first | assumption | wp_step))
  exact hq _ _ _ hx'.of
end
end
section
section
theorem qf1 {s:Ab}{T:String}{name:Hv}{id:String}{B:Ax}{self:Hw}{rest:List Hw}{S:PySem.Spec}(slot:Slot T name id)(hT:s.TypeIs self T)(entry:G2 table id=ER B)(args:GF id ⟨self::rest,[]⟩)(g:Meets (B ⟨self::rest,[]⟩) S)(h:S A R s):Cn (Hu prog w) A (.call (.builtin id) ⟨self::rest,[]⟩) R s:=
  CL slot.plain entry (slot.check _ _ _ _ _ _ _ _ hT args (g prog w A R s h))
set_option maxHeartbeats 1000000 in
theorem qje {g:Array FT}{d:Drawn}{t:Nat}{xs:Array Hw}{name:Hv}(hA:A.handled=Dt)(hx:h.get? a=ER (qa8 xs k))(hmiss:A6 (.type "list") name=pure Dt)(hname:(["__module__", "__name__", "__qualname__", "__doc__", "__annotations__"]:List Hv).contains name=Hr)(hq:∀h' tk e,Gl h h' e "AttributeError"->E (.ref e) ⟨h',g,d,tk,os⟩)(hsz:name.length+100<=Ai):Hs (Hu prog w) A (Ec (.ref a) (.str name tk) Hr Hr) Q E ⟨h,g,d,t,os⟩:=by
  have hT:∀tk',(⟨h,g,d,tk',os⟩:Ab).TypeIs (.ref a) "list":=λ_=>⟨_,hx,rfl⟩
  have f1:=EF;have f3:=PySem.F.slot_list_getattribute.lookup;have f4:=PySem.F.slot_list_getattribute.bind (.ref a);have f5:=am_list_getattr_none;unfold Ec;repeat (any_goals (first | assumption | exact hT _ | wp_step))
  refine qf1 PySem.F.slot_list_getattribute (hT _) FU (PySem.F.args_list_getattribute_2 _ _) (meets_getattribute_miss_list a xs k #[] name tk hmiss hname hsz) ⟨hx,hA,λh' tk' e hx'=>?_⟩;refine qkm (hx'.there) ?_;intro t' u' he;show Hs _ _ (C9 _ _ _ _ _ _ _) _ _ _;unfold C9;repeat (any_goals (first | assumption | wp_step))
  exact hq _ _ _ hx'.of
set_option maxHeartbeats 1000000 in
theorem qjw {g:Array FT}{d:Drawn}{t:Nat}{es:Array Dj}{sl:Array (Option Hw)}{name:Hv}(hA:A.handled=Dt)(hx:h.get? a=ER { cls:=.type "dict",dict:=Dt,data:=.dict es k,slots:=sl })(hmiss:A6 (.type "dict") name=pure Dt)(hname:(["__module__", "__name__", "__qualname__", "__doc__", "__annotations__"]:List Hv).contains name=Hr)(hq:∀h' tk e,Gl h h' e "AttributeError"->E (.ref e) ⟨h',g,d,tk,os⟩)(hsz:name.length+100<=Ai):Hs (Hu prog w) A (Ec (.ref a) (.str name tk) Hr Hr) Q E ⟨h,g,d,t,os⟩:=by
  have hT:∀tk',(⟨h,g,d,tk',os⟩:Ab).TypeIs (.ref a) "dict":=λ_=>⟨_,hx,rfl⟩
  have f1:=EF;have f3:=PySem.F.slot_dict_getattribute.lookup;have f4:=PySem.F.slot_dict_getattribute.bind (.ref a);have f5:=am_dict_getattr_none;unfold Ec;repeat (any_goals (first | assumption | exact hT _ | wp_step))
  refine qf1 PySem.F.slot_dict_getattribute (hT _) am_entry_dict_getattribute (PySem.F.args_dict_getattribute_2 _ _) (meets_getattribute_miss_dict a es k sl name tk hmiss hname hsz) ⟨hx,hA,λh' tk' e hx'=>?_⟩;refine qkm (hx'.there) ?_;intro t' u' he;show Hs _ _ (C9 _ _ _ _ _ _ _) _ _ _;unfold C9;repeat (any_goals (first | assumption | wp_step))
  exact hq _ _ _ hx'.of
theorem qi7:builtinKind "hasattr"=Dt:=by decide +kernel
theorem qh0:plainId "hasattr"=Hq:=by decide +kernel
theorem qh9:G2 table "hasattr"=ER Ax.«hasattr»:=Gv (by kernel_rfl)
theorem qit (a b:Hw):GF "hasattr" ⟨[a,b],[]⟩:=by unfold GF;kernel_rfl
set_option maxHeartbeats 1000000 in
theorem qcb {g:Array FT}{d:Drawn}{t:Nat}{x:Ht}{T:String}{name:Hv}(hx:h.get? x=ER o)(hT:o.cls=.type T)(hm:FI (.type T) (.type "module")=pure Hr)(hl:A6 (.type T) name=pure Dt)(hq:Hs (Hu prog w) A.in1 (Ec (.ref x) (.str name tk) Hr Hr) (λv s'=>Q (.bool Hq) s') (λe s'=>∃a,e=.ref a/\(∃o,s'.heap.get? a=ER o/\o.cls=.type "AttributeError")/\Q (.bool Hr) s') ⟨h,g,d,t,os⟩):
    Hs (Hu prog w) A (call (.builtin "hasattr") [.ref x,.str name tk]) Q E ⟨h,g,d,t,os⟩:=by
  obtain ⟨c,dct,dat,sl⟩:=o;simp only at hT;subst hT;have hTI:∀tk',(⟨h,g,d,tk',os⟩:Ab).TypeIs (.ref x) T:=λ_=>⟨_,hx,rfl⟩
  have f1:=EF;refine PySem.Calls.call_function_entry qi7 qh0 qh9 (qit _ _) ?_;unfold Ax.«hasattr»;repeat (any_goals (first | assumption | exact hTI _ | ((with_reducible show Hs _ _ (Ec _ _ _ _) _ _ _);refine AD hq (λv s' hv=>?_) (λe s' he=>?_)) | (obtain ⟨a,rfl,hTe,hQ⟩:=he;have hTe':s'.TypeIs (.ref a) "AttributeError":=hTe;clear hTe) | wp_step))
  . exact ⟨_,rfl,hv⟩
  . exact ⟨_,rfl,hQ⟩
end
end
section
open PySem.Builtin PySem.Builtin.ObjectAttr
section
theorem qig (self:Hw):refuseLoop self "__setattr__" [.type "function",.type "object"]=pure ():=by
  kernel_rfl
theorem qol (a b c:Hw):GF "object.__setattr__" ⟨[a,b,c],[]⟩:=PySem.F.store_object.args a b c
set_option maxHeartbeats 1000000 in
theorem qh7 {g:Array FT}{d:Drawn}{t:Nat}{x:Ht}{fd:BV}{name:Hv}{v:Hw}{Q:Unit->Ab->Prop}(hx:h.get? x=ER { cls:=.type "function",data:=.func fd })(hl:A6 (.type "function") name=pure Dt)(hq:∀h' tk',h'.get? x=ER { cls:=.type "function",dict:=ER h.objs.size,data:=.func fd }->h'.Ns1 h.objs.size (λy=>if y=name then ER v else Dt) ->
      (∀b o,b≠x->h.get? b=ER o->h'.get? b=ER o)->Q () ⟨h',g,d,tk',os⟩):Hs (Hu prog w) A (Hm (.ref x) name v) Q E ⟨h,g,d,t,os⟩:=by
  have hT:∀tk',(⟨h,g,d,tk',os⟩:Ab).TypeIs (.ref x) "function":=λ_=>⟨_,hx,rfl⟩
  have f2:=fn_slot_sa.lookup;have f3:=fn_slot_sa.bind (.ref x);have hm:=qqr;have hpass:=qig (.ref x);unfold Hm callSpecial? specialOf;repeat (any_goals (first | assumption | exact hT _ | wp_step))
  refine CL fn_slot_sa.plain PySem.F.store_object.entry (fn_slot_sa.check _ _ _ _ _ _ _ _ (hT _) (qol _ _ _) ?_);show Hs (Hu prog w) A.in1 (Ax.«object.__setattr__» ⟨[.ref x,.str name t,v],[]⟩) _ _ _;unfold Ax.«object.__setattr__»;repeat (any_goals ((fail_if_success (with_reducible show Hs _ _ (storeInDict _ _ _ _) _ _ _));(first | assumption | exact hT _ | rw[refuse_eq] | rw[hpass] | wp_step)))
  have hxs:x≠h.objs.size:=BC (EQ hx);have hx1:(h.push { cls:=.type "dict",data:=.dict #[] }).get? x=ER { cls:=.type "function",data:=.func fd }:=Am _ hx;show Hs _ _ (storeInDict h.objs.size (.str name t) name v) _ _ _;unfold storeInDict newKeyGuard;have hgd:((h.push { cls:=.type "dict",data:=.dict #[] }).update x λo=>{ cls:=o.cls,dict:=ER h.objs.size,data:=o.data,slots:=o.slots }).get? h.objs.size
      = ER { cls:=.type "dict",data:=.dict #[] }:=
    (Ei _ _ _ _ hxs.symm).trans (Heap.get?_push_at rfl rfl)
  have hnd:((h.push { cls:=.type "dict",data:=.dict #[] }).update x λo=>{ cls:=o.cls,dict:=ER h.objs.size,data:=o.data,slots:=o.slots }).Ns h.objs.size (λ_=>Dt):=
    ⟨_,#[],_,hgd,rfl,λe he=>absurd he (by simp),λ_=>rfl⟩
  refine Aa (Ad (Aa (wpAny_nsSet1 (Heap.Ns1.of_empty hnd) λh' hn' hs=>?_)));refine qap (hn'.count (Within.cons name v Within.nil)) ?_;intro oD esD epD hoD hdD hcD;refine Aa (wpAny_lookBehind hoD (by rw[hdD];exact pastItsLine_dict (Af hcD (by rw[Bu,Dk,AB];simp +arith))) ?_);have hx':h'.get? x=ER { cls:=.type "function",dict:=ER h.objs.size,data:=.func fd }:=(hs.2 x hxs).trans (Be _ hx1 rfl);repeat (any_goals (first | assumption | wp_step))
  exact hq h' _ hx' hn' λb o hb ho=>(hs.2 b (BC (EQ ho))).trans ((Ei _ _ _ _ hb).trans (Am _ ho))
set_option maxHeartbeats 1000000 in
theorem qh6 {g:Array FT}{d:Drawn}{t:Nat}{x dx:Ht}{fd:BV}{name:Hv}{v:Hw}{mh:Hv->Option Hw}{ns:List Hv}{Q:Unit->Ab->Prop}(hx:h.get? x=ER { cls:=.type "function",dict:=ER dx,data:=.func fd })(hn:h.Ns1 dx mh)(hl:A6 (.type "function") name=pure Dt)(hq:∀h' tk',h'.Ns1 dx (λy=>if y=name then ER v else mh y) ->
      (∀b o,b≠dx->h.get? b=ER o->h'.get? b=ER o)->Q () ⟨h',g,d,tk',os⟩)(hw:Within mh ns)(hsz:ns.length+1<=Ai):Hs (Hu prog w) A (Hm (.ref x) name v) Q E ⟨h,g,d,t,os⟩:=by
  have hT:∀tk',(⟨h,g,d,tk',os⟩:Ab).TypeIs (.ref x) "function":=λ_=>⟨_,hx,rfl⟩
  have f2:=fn_slot_sa.lookup;have f3:=fn_slot_sa.bind (.ref x);have hm:=qqr;have hpass:=qig (.ref x);unfold Hm callSpecial? specialOf;repeat (any_goals (first | assumption | exact hT _ | wp_step))
  refine CL fn_slot_sa.plain PySem.F.store_object.entry (fn_slot_sa.check _ _ _ _ _ _ _ _ (hT _) (qol _ _ _) ?_);show Hs (Hu prog w) A.in1 (Ax.«object.__setattr__» ⟨[.ref x,.str name t,v],[]⟩) _ _ _;unfold Ax.«object.__setattr__»;repeat (any_goals ((fail_if_success (with_reducible show Hs _ _ (storeInDict _ _ _ _) _ _ _));(first | assumption | exact hT _ | rw[refuse_eq] | rw[hpass] | wp_step)))
  show Hs _ _ (storeInDict dx (.str name t) name v) _ _ _;unfold storeInDict newKeyGuard;refine Aa (Ad (Aa (wpAny_nsSet1 hn λh' hn' hs=>?_)));refine qap (hn'.count (Within.cons name v hw)) ?_;intro oD esD epD hoD hdD hcD;refine Aa (wpAny_lookBehind hoD (by rw[hdD];exact pastItsLine_dict (Af hcD (by rw[Bu];lia))) ?_);repeat (any_goals (first | assumption | wp_step))
  exact hq h' _ hn' λb o hb ho=>(hs.2 b hb).trans ho
end
end
section
noncomputable def qkk:AV->Bool
  | .glob (.ref _)=>Hq
  | .glob _=>Hr
  | .any=>Hr
  | _=>Hq
theorem qn0 {v:Hw}(r:RV W g h av v)(ho:qkk av=Hq):handedOut v=pure v:=by
  cases av with
  | none=>obtain rfl:v=.none:=r;rfl
  | bool b=>obtain rfl:v=.bool b:=r;rfl
  | int i=>obtain ⟨t,rfl⟩:=r;rfl
  | str x=>obtain ⟨t,rfl⟩:=r;rfl
  | tup l=>refine qbs (r) ?_;intro a vs n eq_2_3 _;subst eq_2_3;rfl
  | lst l=>refine qbs (r) ?_;intro a vs n eq_3_3 _;subst eq_3_3;rfl
  | loc n=>refine qa4 (r) ?_;intro a eq_4_1 _;subst eq_4_1;rfl
  | glob w=>
    obtain rfl:v=w:=r;cases v <;> first | rfl | (cases (ho:Hr=Hq))
  | bound f s=>refine qcs (r) ?_;intro a u eq_5_2 _;subst eq_5_2;rfl
  | clo l ns cs=>refine qbs (r) ?_;intro a fd vs eq_6_3 _;subst eq_6_3;rfl
  | any=>cases (ho:Hr=Hq)
theorem qen:∀{attrs:List Hv} {vals:List AV} {vs:List Hw} {av:AV},RVs W g h vals vs->(attrs.zip vals).lookup x=ER av->∃v,(attrs.zip vs).lookup x=ER v/\RV W g h av v
  | [],_,_,_,_,hl=>by simp at hl
  | _::_,[],_,_,_,hl=>by simp at hl
  | y::attrs,a::vals,vs,av,r,hl=>by
    refine qa2 (r) ?_;intro v q eq_7_2 r1 r2;subst eq_7_2;rw[Bl,AZ] at hl ⊢;cases hb:x==y with
    | true=>rw[hb] at hl;obtain rfl:=Sj hl;exact ⟨v,rfl,r1⟩
    | false=>rw[hb] at hl;exact qen r2 hl
section
theorem qg2 {s:Ab}(R:Rep W fr g σ s)(hn:σ[n]?=ER (.elem attrs vals))(ra:RV W g s.heap (.loc n) va):
    ∃a fd d mh vs,va=.ref a/\g a=.loc n/\s.heap.get? a=ER { cls:=.type "function",dict:=ER d,data:=.func fd }/\g d=.aux n/\s.heap.Ns1 d mh/\RVs W g s.heap vals vs/\(∀x,mh x=(attrs.zip vs).lookup x)/\attrs.length=vs.length:=by
  refine qa4 (ra) ?_;intro a eq_8_1 hg;subst eq_8_1;refine qh2 (R.locs n _ hn) ?_;intro a' hg' fd d mh vs h1 h2 h3 h4 h5 h6;have:a'=a:=R.uniq _ _ _ hg' hg;subst this;exact ⟨a',fd,d,mh,vs,rfl,hg,h1,h2,h3,h4,h5,h6⟩
theorem qik {s:Ab}{ex:Bool}(R:Rep W fr g σ s)(hn:σ[n]?=ER (.elem attrs vals))(ra:RV W g s.heap (.loc n) va)(hx:(attrs.zip vals).lookup x=ER av)(ho:qkk av=Hq)(hl:A6 (.type "function") x=pure Dt)(hQ:∀v s',Rep W fr g σ s'->s'.heap=s.heap->RV W g s'.heap av v->Q v s'):Hs (Hu W.prog W.w) A (Hl va x ex) Q E s:=by
  refine qb8 (qg2 R hn ra) ?_;intro a fd d mh vs eq_10_5 hg h1 h2 h3 h4 h5 h6;subst eq_10_5;refine qa4 (qen h4 hx) ?_;intro v hv rv;exact qsd h1 h3.ns hl (by rw[h5];exact hv) (qn0 rv ho) (hQ v _ (R.tok _) rfl rv)
theorem Iay (he:Ev C k fr m σ e (.loc n) z')(hn:z'[n]?=ER (.elem attrs vals))(hx:(attrs.zip vals).lookup x=ER av)(hl:A6 (.type "function") x=pure Dt)(ho:autoParam (qkk av=Hq) ap0._auto_1)(hb:autoParam (∀env w,attributeBase e x env w=w) ap0._auto_1):Ev C k fr m σ (.Attribute e x p) av z':=λA env g s rm R F Q E hQ=>by
  rw[arm_eval_Attribute,hb];refine Aa (he A env g s rm R F _ _ λva g1 s1a R1 e1a ra=>?_);refine Aa (AS (Aa (AK (qik R1 hn ra hx ho hl λv s2 R2 h2a rv=>?_))));refine Aa (wpAny_letTemporaryGo (Ad ?_));exact hQ v g1 s2 R2 (by rw[h2a];exact e1a) rv
def MethOk (W:Wd) (fr:List HA) (σ:List AObj) (a:AV) (x:Hv) (f:AV) (first:List AV):Prop:=
  ∀(A:BJ) (g:Ht->Own) (s:Ab) (va:Hw) (pl:Sem Bool) (Q:Hw×List Hw->Ab->Prop) (E:Hw->Ab->Prop),Rep W fr g σ s->RV W g s.heap a va ->
    (∀vf fs s',Rep W fr g σ s'->s'.heap=s.heap->RV W g s'.heap f vf->RVs W g s'.heap first fs->Q (vf,fs) s')->Hs (Hu W.prog W.w) A (getMethod va x pl) Q E s
theorem Iaj {pl:HA->Sem Bool}{o:Expr}{a f:AV}{first:List AV}(he:Ev C k fr m σ o a z1)(hm:MethOk C.W fr z1 a x f first)(hf:Kept C.W f)(ha:Evs C k fr m z1 es args z2)(hc:Calls C.W C.Y k fr z2 f (first++args) [] [] v z')(hpl:autoParam (∀env p,(Ft p (CV es env)).any (·.1)=Hr) ap0._auto_1)(he':autoParam (∀env,eval (.Call (.Attribute o x q) es [] p) env=(do
      let ov <- eval o env
      Dx q.atName
      let (f,first) <- Ea [ov] (getMethod ov x (pl env))
      callWith p f first (Ft p (CV es env)) [])) ap0._auto_1):Ev C k fr m σ (.Call (.Attribute o x q) es [] p) v z':=λA env g s rm R F Q E hQ=>by
  refine MethodCall_ (pl:=pl env) ?_ (he' env);refine he A env g s rm R F _ _ λva g1 s1a R1 e1a ra=>?_
  refine hm A g1 s1a va (pl env) _ _ R1 ra (λvf fs s2 R2 h2a rf rs=>?_);have e2a:Evo C.W noX C.Y g s.heap g1 s2.heap:=by rw[h2a];exact e1a
  exact qg7 (kws:=[]) (p':=p) hf ha EvK.nil hc hpl rm R2 (F.up e2a) rf rs λv' g3 s3 R3 e3a r3=>hQ v' g3 s3 R3 (e2a.trans e3a) r3
theorem MethOk.list {a:AV}{id:String}(hL:Lv σ a l)(slot:Slot "list" x id)(hty:typeOf (.builtin id)=pure (.type "method_descriptor"):=by first | rfl | decide +kernel | kernel_rfl):MethOk W fr σ a x (.glob (.builtin id)) [a]:=
  λA g s va pl Q E R ra hQ=>by
  refine qa1 (hL.at R ra) ?_;intro b vs n eq_12_3 ho hr _;subst eq_12_3;refine Gd (qah ho).typeIs PySem.F.plainAttrs_list slot hty (λa e=>by cases e;exact ⟨_,ho,rfl⟩) ?_;exact hQ _ _ s R rfl rfl ⟨_,[],rfl,ra,rfl⟩
theorem qpn:(Manifest.canonical "object.__getattribute__" != "object.__getattribute__")=Hr:=by decide +kernel
theorem MethOk.elem (hn:σ[n]?=ER (.elem attrs vals))(hx:(attrs.zip vals).lookup x=ER av)(hl:A6 (.type "function") x=pure Dt)(ho:autoParam (qkk av=Hq) ap0._auto_1):MethOk W fr σ (.loc n) x av []:=
  λA g s va pl Q E R ra hQ=>by
  refine qb8 (qg2 R hn ra) ?_;intro a fd d mh vs eq_13_5 hg h1 h2 h3 h4 h5 h6;subst eq_13_5;have hT:s.TypeIs (.ref a) "function":=⟨_,h1,rfl⟩
  unfold getMethod;refine Aa (DP hT fn_slot_ga.lookup ?_);show Hs _ A (if (Manifest.canonical "object.__getattribute__" != "object.__getattribute__")=Hq then _ else _) Q E s;rw[qpn,if_neg AL];refine Aa (DP hT qjn ?_);refine Aa (DP hT hl ?_);show Hs _ A (do return (<- Hl (.ref a) x,[])) Q E s;exact Aa (qik R hn ra hx ho hl λv s2 R2 h2a rv=>Ad (hQ v [] s2 R2 h2a rv rfl))
end
end
section
section
theorem qgf {α:Type}{vs:List Hw}:Within (λx=>(attrs.zip vs).lookup x) attrs:=by
  intro y hy;have:∀(attrs:List Hv) (vs:List Hw),(attrs.zip vs).lookup y≠Dt->y∈attrs:=by
    intro attrs;induction attrs with
    | nil=>intro vs h;simp at h
    | cons z attrs ih=>
      intro vs h;cases vs with
      | nil=>simp at h
      | cons v vs=>
        rw[Bl,AZ] at h;cases hb:y==z with
        | true=>simp at hb;rw[hb];exact Ac
        | false=>rw[hb] at h;exact Ak _ (ih vs h)
  exact this attrs vs hy
theorem qmj {s:Ab}{v:Hw}(R:Rep W fr g σ s)(hn:σ[n]?=ER .fn0)(ra:RV W g s.heap (.loc n) va)(rv:RV W g s.heap av v)(hp:plain av=Hq)(hl:A6 (.type "function") x=pure Dt){Q:Unit->Ab->Prop}(hQ:∀g' s',Rep W fr g' (σ.set n (.elem [x] [av])) s'->Evo W noX (·=n) g s.heap g' s'.heap->Q () s'):Hs (Hu W.prog W.w) A (Hm va x v) Q E s:=by
  refine qa4 (ra) ?_;intro a eq_0_1 hg;subst eq_0_1;refine qtp (R.locs n _ hn) ?_;intro a' hg' fd h1;have:a'=a:=R.uniq _ _ _ hg' hg;subst this;refine qh7 h1 hl λh' tk' h2 h3 h4=>?_
  have htop:s.heap.get? s.heap.objs.size=Dt:=qag _;have hne:∀b o,s.heap.get? b=ER o->b≠s.heap.objs.size:=λb o ho q=>by rw[q,htop] at ho;cases ho
  have hk:∀b o,s.heap.get? b=ER o->g b≠.loc n->g b≠.aux n->h'.get? b=ER o:=λb o ho q _=>h4 b o (λq'=>q (by rw[q'];exact hg)) ho
  have e:=Evo.setLoc (g':=qbw g s.heap.objs.size (.aux n)) R (n:=n) (λb o ho=>qa5 (hne b o ho)) hk;have hd:∃o,h'.get? s.heap.objs.size=ER o:=by refine qbs (h3) ?_;intro o _ _ q _;exact ⟨o,q⟩
  refine hQ _ _ (R.setLoc (ao':=.elem [x] [av]) tk' hn (λb o ho=>qa5 (hne b o ho)) (λb hb=>?_) hk (λb o ho hq=>?_) (by show (plain av&&Hq)=Hq;rw[hp];rfl) (λb hb=>?_)) e
  . by_cases q:b=s.heap.objs.size
    . subst q;exact .inr ⟨.inl qa3,hd⟩
    . rw[qa5 q];exact .inl (R.newO hb)
  . by_cases q:b=a'
    . subst q;exact ⟨_,h2⟩
    . exact ⟨o,h4 b o q ho⟩
  . have:b=a':=R.uniq _ _ _ hb hg;subst this;exact ⟨fd,_,_,[v],h2,qa3,h3,⟨v,[],rfl,rv.up e,rfl⟩,λy=>by
      rw[Bl,AZ];by_cases q:y=x
      . subst q;simp
      . have:(y==x)=Hr:=by simpa using q
        rw[this,if_neg q];rfl,rfl⟩
theorem qla {s:Ab}{v:Hw}(R:Rep W fr g σ s)(hn:σ[n]?=ER (.elem attrs vals))(ra:RV W g s.heap (.loc n) va)(rv:RV W g s.heap av v)(hp:plain av=Hq)(hl:A6 (.type "function") x=pure Dt)(hz:attrs.length+1<=Ai){Q:Unit->Ab->Prop}(hQ:∀g' s',Rep W fr g' (σ.set n (.elem (x::attrs) (av::vals))) s'->Evo W noX (·=n) g s.heap g' s'.heap->Q () s'):Hs (Hu W.prog W.w) A (Hm va x v) Q E s:=by
  refine qb8 (qg2 R hn ra) ?_;intro a fd d mh vs eq_3_5 hg h1 h2 h3 h4 h5 h6;subst eq_3_5;have hmh:mh=λy=>(attrs.zip vs).lookup y:=funext h5
  subst hmh;refine qh6 h1 h3 hl (λh' tk' h7 h8=>?_) (qgf (α:=Unit)) hz;have hda:a≠d:=λq=>by rw[q,h2] at hg;cases hg
  have hk:∀b o,s.heap.get? b=ER o->g b≠.loc n->g b≠.aux n->h'.get? b=ER o:=λb o ho _ q=>h8 b o (λq'=>q (by rw[q'];exact h2)) ho
  have e:=Evo.setLoc (g':=g) R (n:=n) (λb o ho=>rfl) hk;have hd:∃o,h'.get? d=ER o:=by refine qbs (h7) ?_;intro o _ _ q _;exact ⟨o,q⟩
  refine hQ _ _ (R.setLoc (ao':=.elem (x::attrs) (av::vals)) tk' hn (λb o ho=>rfl) (λb hb=>.inl (R.newO hb)) hk (λb o ho hq=>?_) ?_ (λb hb=>?_)) e
  . by_cases q:b=d
    . subst q;exact hd
    . exact ⟨o,h8 b o q ho⟩
  . have:=R.pl n _ hn;show (plain av&&plains vals)=Hq;rw[hp];exact this
  . have:b=a:=R.uniq _ _ _ hb hg;subst this;exact ⟨fd,d,_,v::vs,h8 b _ hda h1,h2,h7,⟨v,vs,rfl,rv.up e,h4.up e⟩,λy=>by
      rw[Bl,AZ];by_cases q:y=x
      . subst q;simp
      . have:(y==x)=Hr:=by simpa using q
        rw[this,if_neg q],by simp[h6]⟩
theorem Evo.toN (e:Evo W noX (·=n) g h g' h')(hY:Y n):Evo W noX Y g h g' h':=e.wk λm q=>q ▸ hY
theorem Icm {o:Expr}(he:Ev C k fr m σ o (.loc n) z1)(hn:z1[n]?=ER .fn0)(hl:A6 (.type "function") x=pure Dt)(hY:C.Y n)(hp:autoParam (plain av=Hq) ap0._auto_1):
    As C k fr m σ (.Attribute o x p) av m (z1.set n (.elem [x] [av])):=λA env g s v rm R F rv Q E hQ=>by
  rw[arm_assign_Attribute];refine Aa (AK (he A env g s rm R F _ _ λva g1 s1a R1 e1a ra=>?_));refine Aa (AS (Aa (AK (qmj R1 hn ra (rv.up e1a) hp hl λg2 s2 R2 e2a=>?_))));have e:=e1a.trans (e2a.toN hY);exact wpAny_release (hQ g2 s2 R2 e.toX (F.up e))
theorem Ic9 {o:Expr}(he:Ev C k fr m σ o (.loc n) z1)(hn:z1[n]?=ER (.elem attrs vals))(hl:A6 (.type "function") x=pure Dt)(hY:C.Y n)(hp:autoParam (plain av=Hq) ap0._auto_1)(hz:autoParam (attrs.length+1<=Ai) ap2._auto_1):
    As C k fr m σ (.Attribute o x p) av m (z1.set n (.elem (x::attrs) (av::vals))):=λA env g s v rm R F rv Q E hQ=>by
  rw[arm_assign_Attribute];refine Aa (AK (he A env g s rm R F _ _ λva g1 s1a R1 e1a ra=>?_));refine Aa (AS (Aa (AK (qla R1 hn ra (rv.up e1a) hp hl hz λg2 s2 R2 e2a=>?_))));have e:=e1a.trans (e2a.toN hY);exact wpAny_release (hQ g2 s2 R2 e.toX (F.up e))
theorem qjc {s:Ab}(R:Rep W fr g σ s){e:Ht}(hx:Gl s.heap h' e "AttributeError")(tk:Nat):Rep W fr g σ { s with heap:=h',toks:=tk }/\Evo W noX noY g s.heap g h':=R.keeps tk hx.keeps
theorem Ibq (hn:σ[n]?=ER (.elem attrs vals))(hx:(attrs.zip vals).lookup x=ER av)(ho:qkk av=Hq)(hl:A6 (.type "function") x=pure Dt):
    Calls W Y k fr σ (.glob (.builtin "hasattr")) [.loc n,.str x] [] [] (.bool Hq) σ:=λA g s vf us ks rm R rf ru rk Q E hQ=>by
  obtain rfl:vf=.builtin "hasattr":=rf;refine qa2 (ru) ?_;intro v1 q1 eq_5_2 r1 q;subst eq_5_2;refine qa2 (q) ?_;(try clear q);intro v2 q2 eq_6_2 ne_6_3 q;subst eq_6_2;obtain ⟨t,rfl⟩:=ne_6_3;obtain rfl:q2=[]:=q;refine qb8 (qg2 R hn r1) ?_;intro a fd d mh vs eq_7_5 hg h1 h2 h3 h4 h5 h6;subst eq_7_5;refine qa4 (qen h4 hx) ?_;intro v hv rv;refine qcb h1 rfl qef hl (qih h1 h3.ns hl (by rw[h5];exact hv) (qn0 rv ho) ?_);exact hQ _ g s R Evo.refl rfl
theorem Icu (hn:σ[n]?=ER (.elem attrs vals))(hx:x∉attrs)(hl:A6 (.type "function") x=pure Dt)(hnm:(["__module__", "__name__", "__qualname__", "__doc__", "__annotations__"]:List Hv).contains x=Hr)(hz:x.length+100<=Ai):
    Calls W Y k fr σ (.glob (.builtin "hasattr")) [.loc n,.str x] [] [] (.bool Hr) σ:=λA g s vf us ks rm R rf ru rk Q E hQ=>by
  obtain rfl:vf=.builtin "hasattr":=rf;refine qa2 (ru) ?_;intro v1 q1 eq_9_2 r1 q;subst eq_9_2;refine qa2 (q) ?_;(try clear q);intro v2 q2 eq_10_2 ne_10_3 q;subst eq_10_2;obtain ⟨t,rfl⟩:=ne_10_3;obtain rfl:q2=[]:=q;refine qb8 (qg2 R hn r1) ?_;intro a fd d mh vs eq_11_5 hg h1 h2 h3 h4 h5 h6;subst eq_11_5;have hv:mh x=Dt:=by
    cases hq:mh x with
    | none=>rfl
    | some v=>rw[h5] at hq;exact absurd (qgf (α:=Unit) (vs:=vs) x (by show List.lookup x (attrs.zip vs)≠Dt;rw[hq];simp)) hx
  refine qcb h1 rfl qef hl (qnv rm.handled h1 h3.ns hl hv hnm (λh' tk e hx'=>?_) hz);obtain ⟨R',e'⟩:=qjc R hx' tk;exact ⟨e,rfl,(by refine qa2 (hx'.there) ?_;intro ob _ q1 q2 _;exact ⟨ob,q1,q2⟩),hQ _ g _ R' e'.no rfl⟩
theorem Icb (hL:Lv σ v l):
    Calls W Y k fr σ (.glob (.builtin "hasattr")) [v,.str "tag"] [] [] (.bool Hr) σ:=λA g s vf us ks rm R rf ru rk Q E hQ=>by
  obtain rfl:vf=.builtin "hasattr":=rf;refine qa2 (ru) ?_;intro v1 q1 eq_14_2 r1 q;subst eq_14_2;refine qa2 (q) ?_;(try clear q);intro v2 q2 eq_15_2 ne_15_3 q;subst eq_15_2;obtain ⟨t,rfl⟩:=ne_15_3;obtain rfl:q2=[]:=q;refine qa1 (hL.at R r1) ?_;intro a vs n eq_16_3 ho hr _;subst eq_16_3;refine qcb ho rfl qdh qgm (qje rm.handled ho qgm (by decide) (λh' tk e hx'=>?_) (by decide));obtain ⟨R',e'⟩:=qjc R hx' tk;exact ⟨e,rfl,(by refine qa2 (hx'.there) ?_;intro ob _ q1 q2 _;exact ⟨ob,q1,q2⟩),hQ _ g _ R' e'.no rfl⟩
end
end
section
mutual
noncomputable def toP:AV->B9
  | .none=>.none
  | .bool b=>.bool b
  | .int i=>.int i
  | .str x=>.str x
  | .tup l=>.tuple (ql8 l)
  | .lst l=>.list (ql8 l)
  | _=>.none
termination_by structural x=>x
noncomputable def ql8:List AV->List B9
  | []=>[]
  | a::l=>toP a::ql8 l
termination_by structural x=>x
end
mutual
noncomputable def isD:AV->Bool
  | .none=>Hq
  | .int _=>Hq
  | .str x=>Bz x
  | .tup l=>qll l
  | .lst l=>qll l
  | _=>Hr
termination_by structural x=>x
noncomputable def qll:List AV->Bool
  | []=>Hq
  | a::l=>isD a&&qll l
termination_by structural x=>x
end
mutual
theorem RV.reads:(av:AV)->isD av=Hq->(v:Hw)->RV W g h av v->∃as,Reads h v (toP av) as
  | .none,_,v,r=>by obtain rfl:v=.none:=r;exact ⟨_,.none⟩
  | .int i,_,v,r=>by obtain ⟨t,rfl⟩:=r;exact ⟨_,.int i t⟩
  | .str x,_,v,r=>by obtain ⟨t,rfl⟩:=r;exact ⟨_,.str x t⟩
  | .tup l,hd,v,r=>by
    refine qa1 (r) ?_;intro a vs n eq_2_3 hg ho hr;subst eq_2_3;obtain ⟨as,q⟩:=RVs.reads l hd _ hr;exact ⟨_,.tuple ho rfl rfl q⟩
  | .lst l,hd,v,r=>by
    refine qa1 (r) ?_;intro a vs n eq_4_3 hg ho hr;subst eq_4_3;obtain ⟨as,q⟩:=RVs.reads l hd _ hr;exact ⟨_,.list ho rfl rfl q⟩
  | .bool b,hd,_,_=>by cases (hd:Hr=Hq)
  | .loc n,hd,_,_=>by cases (hd:Hr=Hq)
  | .glob w,hd,_,_=>by cases (hd:Hr=Hq)
  | .bound f s,hd,_,_=>by cases (hd:Hr=Hq)
  | .clo l ns cs,hd,_,_=>by cases (hd:Hr=Hq)
  | .any,hd,_,_=>by cases (hd:Hr=Hq)
termination_by structural x=>x
theorem RVs.reads:(l:List AV)->qll l=Hq->(vs:List Hw)->RVs W g h l vs->∃as,ReadsAll h vs (ql8 l) as
  | [],_,vs,r=>by obtain rfl:vs=[]:=r;exact ⟨_,.nil⟩
  | a::l,hd,vs,r=>by
    refine qa2 (r) ?_;intro v q eq_6_2 r1 r2;subst eq_6_2;have hd':(isD a&&qll l)=Hq:=hd;rw[AH] at hd';refine Ap (RV.reads a hd'.1 _ r1) ?_;intro as q1;refine Ap (RVs.reads l hd'.2 _ r2) ?_;intro bs q2;exact ⟨_,.cons q1 q2⟩
termination_by structural x=>x
end
mutual
theorem qhg:(av:AV)->isD av=Hq->(toP av).canLay0=Hq
  | .none,_=>rfl
  | .int i,_=>rfl
  | .str x,h=>h
  | .tup l,h=>qg6 l h
  | .lst l,h=>qg6 l h
  | .bool b,hd=>by cases (hd:Hr=Hq)
  | .loc n,hd=>by cases (hd:Hr=Hq)
  | .glob w,hd=>by cases (hd:Hr=Hq)
  | .bound f s,hd=>by cases (hd:Hr=Hq)
  | .clo l ns cs,hd=>by cases (hd:Hr=Hq)
  | .any,hd=>by cases (hd:Hr=Hq)
termination_by structural x=>x
theorem qg6:(l:List AV)->qll l=Hq->B9.canLayAll0 (ql8 l)=Hq
  | [],_=>rfl
  | a::l,h=>by
    have hd':(isD a&&qll l)=Hq:=h;rw[AH] at hd';exact Ay.mpr ⟨qhg a hd'.1,qg6 l hd'.2⟩
termination_by structural x=>x
end
mutual
theorem qpv:(a b:AV)->isD a=Hq->isD b=Hq->(B9.eqv (toP a) (toP b)=Hq↔a=b)
  | .none,b,ha,hb=>by
    cases b with
    | none=>exact ⟨λ_=>rfl,λ_=>rfl⟩
    | _=>first | (cases (hb:Hr=Hq)) | exact ⟨λq=>absurd (show Hr=Hq from q) AL,λq=>nomatch q⟩
  | .int i,b,ha,hb=>by
    cases b with
    | int j=>exact ⟨λq=>congrArg AV.int (EI q),λq=>AV.int.inj q ▸ beq_self_eq_true i⟩
    | _=>first | (cases (hb:Hr=Hq)) | exact ⟨λq=>absurd (show Hr=Hq from q) AL,λq=>nomatch q⟩
  | .str x,b,ha,hb=>by
    cases b with
    | str y=>exact ⟨λq=>congrArg AV.str (EI q),λq=>AV.str.inj q ▸ beq_self_eq_true x⟩
    | _=>first | (cases (hb:Hr=Hq)) | exact ⟨λq=>absurd (show Hr=Hq from q) AL,λq=>nomatch q⟩
  | .tup l,b,ha,hb=>by
    cases b with
    | tup l'=>exact ⟨λq=>congrArg AV.tup ((qij l l' ha hb).mp q),λq=>(qij l l' ha hb).mpr (AV.tup.inj q)⟩
    | _=>first | (cases (hb:Hr=Hq)) | exact ⟨λq=>absurd (show Hr=Hq from q) AL,λq=>nomatch q⟩
  | .lst l,b,ha,hb=>by
    cases b with
    | lst l'=>exact ⟨λq=>congrArg AV.lst ((qij l l' ha hb).mp q),λq=>(qij l l' ha hb).mpr (AV.lst.inj q)⟩
    | _=>first | (cases (hb:Hr=Hq)) | exact ⟨λq=>absurd (show Hr=Hq from q) AL,λq=>nomatch q⟩
  | .bool b,_,hd,_=>by cases (hd:Hr=Hq)
  | .loc n,_,hd,_=>by cases (hd:Hr=Hq)
  | .glob w,_,hd,_=>by cases (hd:Hr=Hq)
  | .bound f s,_,hd,_=>by cases (hd:Hr=Hq)
  | .clo l ns cs,_,hd,_=>by cases (hd:Hr=Hq)
  | .any,_,hd,_=>by cases (hd:Hr=Hq)
termination_by structural x=>x
theorem qij:(l l':List AV)->qll l=Hq->qll l'=Hq->(B9.eqvAll (ql8 l) (ql8 l')=Hq↔l=l')
  | [],[],_,_=>⟨λ_=>rfl,λ_=>rfl⟩
  | [],_::_,_,_=>⟨λq=>absurd (show Hr=Hq from q) AL,λq=>nomatch q⟩
  | a::l,l',ha,hb=>by
    cases l' with
    | nil=>exact ⟨λq=>absurd (show Hr=Hq from q) AL,λq=>nomatch q⟩
    | cons b l'=>
      have ha':(isD a&&qll l)=Hq:=ha;have hb':(isD b&&qll l')=Hq:=hb;rw[AH] at ha' hb';show (B9.eqv (toP a) (toP b)&&B9.eqvAll (ql8 l) (ql8 l'))=Hq↔_;rw[AH,List.cons.injEq,qpv a b ha'.1 hb'.1,qij l l' ha'.2 hb'.2]
termination_by structural x=>x
end
def Dv (σ:List AObj) (a d:AV):Prop:=(a=d\/∃(n:Nat) (l:List AV),a=.loc n/\σ[n]?=ER (.lst l)/\d=.lst l)/\isD d=Hq/\(toP d).depth<=64
section
theorem Dv.reads {s:Ab}{a d:AV}{v:Hw}(D:Dv σ a d)(R:Rep W fr g σ s)(r:RV W g s.heap a v):∃as,Reads s.heap v (toP d) as:=by
  refine qgb (D) ?_;intro h hd _;rcases h with rfl | ⟨n,l,rfl,e,rfl⟩
  . exact r.reads a hd v
  . refine qa4 (r) ?_;intro b eq_10_1 hg;subst eq_10_1;refine qjb (R.locs n _ e) ?_;intro b' hg' vs m ho hr;have:b'=b:=R.uniq _ _ _ hg' hg;subst this;obtain ⟨as,q⟩:=hr.reads l hd _;exact ⟨_,.list ho rfl rfl q⟩
theorem Dv.shaped {a d:AV}(D:Dv σ a d):GG (toP d)=Hq:=by
  unfold GG;rw[qhg d D.2.1,Eo];exact decide_eq_true D.2.2
theorem Room.eqv (rm:Room k fr A):A.units+64<cLine:=by have:=rm.units;have:cLine=9900:=rfl;lia
theorem Ids {a b da db:AV}{c:Bool}(ha:Dv σ a da)(hb:Dv σ b db)(hc:c=Hq↔da=db):Op2 W Y k fr σ (Cz .Eq) a b (.bool c) σ:=λA g s va vb rm R ra rb Q E hQ=>by
  obtain ⟨as,ra'⟩:=ha.reads R ra;obtain ⟨bs,rb'⟩:=hb.reads R rb;have e:B9.eqv (toP da) (toP db)=c:=by
    have:=qpv da db ha.2.1 hb.2.1;rw[<- hc] at this;exact B0.mpr this
  exact SeqAt.compareEq_shaped ra' rb' ha.shaped hb.shaped rm.eqv (by rw[e];exact hQ _ g s R Evo.refl rfl)
theorem Op2.ne {a b da db:AV}{c:Bool}(ha:Dv σ a da)(hb:Dv σ b db)(hc:c=Hq↔da≠db):Op2 W Y k fr σ (Cz .NotEq) a b (.bool c) σ:=λA g s va vb rm R ra rb Q E hQ=>by
  obtain ⟨as,ra'⟩:=ha.reads R ra;obtain ⟨bs,rb'⟩:=hb.reads R rb;have e:(!PyData.eqv (toP da) (toP db))=c:=by
    have:=qpv da db ha.2.1 hb.2.1;refine B0.mpr ?_;rw[hc,Bool.not_eq_true',Ne,<- this];simp
  exact SeqAt.compareNe_shaped ra' rb' ha.shaped hb.shaped rm.eqv (by rw[e];exact hQ _ g s R Evo.refl rfl)
theorem Ib6 {t:Hw->Hw->Sem Hw}{a b:Int}{c:Bool}(h:∀(A:BJ) (s:Ab) (ta tb:Tok) (Q:Hw->Ab->Prop) (E:Hw->Ab->Prop),A.handled=Dt->Q (.bool c) s->Hs (Hu W.prog W.w) A (t (.int a ta) (.int b tb)) Q E s):
    Op2 W Y k fr σ t (.int a) (.int b) (.bool c) σ:=λA g s va vb rm R ha hb Q E hQ=>by
  obtain ⟨ta,rfl⟩:=ha;obtain ⟨tb,rfl⟩:=hb;exact h A s ta tb Q E rm.handled (hQ _ g _ R Evo.refl rfl)
theorem Ial {a b:Int}:Op2 W Y k fr σ (Cz .Lt) (.int a) (.int b) (.bool (decide (a<b))) σ:=Ib6 λ_ _ _ _ _ _ _ h=>PyProof.Rows.lt_int h
theorem Op2.le {a b:Int}:Op2 W Y k fr σ (Cz .LtE) (.int a) (.int b) (.bool (decide (a<=b))) σ:=Ib6 λ_ _ _ _ _ _ _ h=>PyProof.Rows.le_int h
theorem Iec {a b:Int}:Op2 W Y k fr σ (Cz .Gt) (.int a) (.int b) (.bool (decide (b<a))) σ:=Ib6 λ_ _ _ _ _ _ _ h=>PyProof.Rows.gt_int h
theorem Iei {a b:Int}:Op2 W Y k fr σ (Cz .GtE) (.int a) (.int b) (.bool (decide (b<=a))) σ:=Ib6 λ_ _ _ _ _ _ _ h=>PyProof.Rows.ge_int h
theorem Ibe {a b:Int}:Op2 W Y k fr σ (Cz .Eq) (.int a) (.int b) (.bool (a==b)) σ:=Ib6 λ_ _ _ _ _ _ _ h=>PyProof.Rows.eq_int h
theorem Iee {a b:Int}:Op2 W Y k fr σ (Cz .NotEq) (.int a) (.int b) (.bool (a != b)) σ:=Ib6 λ_ _ _ _ _ _ _ h=>PyProof.Rows.ne_int h
theorem Op2.and {a b:Int}:Op2 W Y k fr σ (CJ .BitAnd) (.int a) (.int b) (.int (AN a b)) σ:=Op2.ints λ_ _ _ _ _ _ _ h=>PyProof.Rows.and_int h
theorem Ieb {a b:Int}:Op2 W Y k fr σ (CJ .BitOr) (.int a) (.int b) (.int (Du a b)) σ:=Op2.ints λ_ _ _ _ _ _ _ h=>PyProof.Rows.or_int h
theorem Idp {a b:Int}:Op2 W Y k fr σ (CJ .BitXor) (.int a) (.int b) (.int (Da a b)) σ:=Op2.ints λ_ _ _ _ _ _ _ h=>PyProof.Rows.xor_int h
theorem Ief {a b:Int}:Op2 W Y k fr σ (inplaceOp .BitOr) (.int a) (.int b) (.int (Du a b)) σ:=Op2.ints λ_ _ _ _ _ _ _ h=>PyProof.Rows.ior_int h
theorem Id8 {a b:Int}:Op2 W Y k fr σ (inplaceOp .BitXor) (.int a) (.int b) (.int (Da a b)) σ:=Op2.ints λ_ _ _ _ _ _ _ h=>PyProof.Rows.ixor_int h
theorem Ibd {a n:Int}(hn:0<=n)(hn2:n<=1000000)(ha:a.natAbs<2 ^ 64):Op2 W Y k fr σ (CJ .LShift) (.int a) (.int n) (.int (a*2 ^ n.toNat)) σ:=Op2.ints λ_ _ _ _ _ _ _ h=>PyProof.Rows.lshift_int_small hn hn2 ha h
theorem Ie1 {a n:Int}(hn:0<=n)(hn2:n<=1000000)(ha:a.natAbs<2 ^ 64):Op2 W Y k fr σ (inplaceOp .LShift) (.int a) (.int n) (.int (a*2 ^ n.toNat)) σ:=Op2.ints λ_ _ _ _ _ _ _ h=>PyProof.Rows.ilshift_int_small hn hn2 ha h
theorem Idq {a n:Int}(hn:0<=n):Op2 W Y k fr σ (CJ .RShift) (.int a) (.int n) (.int (a.fdiv (2 ^ n.toNat))) σ:=Op2.ints λ_ _ _ _ _ _ _ h=>PyProof.Rows.rshift_int hn h
theorem Icx {a n:Int}(hn:0<=n)(hn2:n<=1000000)(ha:a.natAbs<2 ^ 64):Op2 W Y k fr σ (CJ .Pow) (.int a) (.int n) (.int (a ^ n.toNat)) σ:=Op2.ints λ_ _ _ _ _ _ _ h=>PyProof.Rows.pow_int_small hn hn2 ha h
noncomputable def isNone:AV->Option Bool
  | .none=>ER Hq
  | .any=>Option.none
  | .glob v=>ER (v==.none)
  | _=>ER Hr
theorem qno {a:AV}{v:Hw}{b:Bool}(r:RV W g h a v)(hb:isNone a=ER b):(v==Value.none)=b:=by
  cases a with
  | none=>obtain rfl:v=.none:=r;obtain rfl:=Sj hb;rfl
  | bool c=>obtain rfl:v=.bool c:=r;obtain rfl:=Sj hb;rfl
  | int i=>obtain ⟨t,rfl⟩:=r;obtain rfl:=Sj hb;rfl
  | str x=>obtain ⟨t,rfl⟩:=r;obtain rfl:=Sj hb;rfl
  | tup l=>refine qbs (r) ?_;intro a vs n eq_27_3 _;subst eq_27_3;obtain rfl:=Sj hb;rfl
  | lst l=>refine qbs (r) ?_;intro a vs n eq_28_3 _;subst eq_28_3;obtain rfl:=Sj hb;rfl
  | loc n=>refine qa4 (r) ?_;intro a eq_29_1 _;subst eq_29_1;obtain rfl:=Sj hb;rfl
  | glob w=>obtain rfl:v=w:=r;obtain rfl:=Sj hb;rfl
  | bound f s=>refine qcs (r) ?_;intro a u eq_30_2 _;subst eq_30_2;obtain rfl:=Sj hb;rfl
  | clo l ns cs=>refine qbs (r) ?_;intro a fd vs eq_31_3 _;subst eq_31_3;obtain rfl:=Sj hb;rfl
  | any=>cases hb
theorem Op2.isNone {a:AV}{b:Bool}(h:autoParam (isNone a=ER b) ap0._auto_1):Op2 W Y k fr σ (Cz .Is) a .none (.bool b) σ:=λA g s va vb rm R ra rb Q E hQ=>by
  obtain rfl:vb=.none:=rb;exact is_none_gen (by rw[qno ra h];exact hQ _ g s R Evo.refl rfl)
theorem Ib5 {c d:Bool}:Op2 W Y k fr σ (Cz .Is) (.bool c) (.bool d) (.bool (c==d)) σ:=λA g s va vb rm R ra rb Q E hQ=>by
  obtain rfl:va=.bool c:=ra;obtain rfl:vb=.bool d:=rb;exact is_bool (hQ _ g s R Evo.refl rfl)
theorem Idd:Op2 W Y k fr σ (Cz .Is) (.loc n) (.loc n) (.bool Hq) σ:=λA g s va vb rm R ra rb Q E hQ=>by
  refine qa4 (ra) ?_;intro a eq_32_1 hg;subst eq_32_1;refine qa4 (rb) ?_;intro b eq_33_1 hg';subst eq_33_1;have:a=b:=R.uniq a b n hg hg';subst this;show Hs _ A (do return Value.bool (<- isSame (.ref a) (.ref a))) Q E s;refine Aa ?_;show Hs _ A (if (a==a)=Hq then pure Hq else _) _ E s;rw[if_pos (beq_self_eq_true a)];exact Ad (Ad (hQ _ g s R Evo.refl rfl))
end
end
section
section
noncomputable abbrev qa0 (ns:List Int):List AV:=ns.map .int
theorem RVs.ints:∀{ns:List Int} {vs:List Hw},RVs W g h (qa0 ns) vs->Hn vs ns
  | [],vs,r=>by obtain rfl:vs=[]:=r;exact .nil
  | n::ns,vs,r=>by refine qa2 (r) ?_;intro v q eq_0_2 ne_0_3 r2;subst eq_0_2;obtain ⟨t,rfl⟩:=ne_0_3;exact .cons n t (RVs.ints r2)
theorem RVs.pairs:∀{ns:List Int} {vs:List Hw},RVs W g h (qa0 ns) vs->∃l:List (Int×Tok),vs=l.map (λp=>Value.int p.1 p.2)/\l.map (·.1)=ns
  | [],vs,r=>by obtain rfl:vs=[]:=r;exact ⟨[],rfl,rfl⟩
  | n::ns,vs,r=>by
    refine qa2 (r) ?_;intro v q eq_1_2 ne_1_3 r2;subst eq_1_2;obtain ⟨t,rfl⟩:=ne_1_3;refine qa4 (RVs.pairs r2) ?_;intro l eq_2_1 eq_2_2;subst eq_2_1;subst eq_2_2;exact ⟨(n,t)::l,rfl,rfl⟩
theorem RVs.items {vs:Array Hw}(r:RVs W g h (qa0 ns) vs.toList):∃xs:Array (Int×Tok),vs=intItems xs/\xs.toList.map (·.1)=ns:=by
  refine qa4 (RVs.pairs r) ?_;intro l e eq_3_2;subst eq_3_2;refine ⟨l.toArray,?_,by rfl⟩;apply Array.toList_inj.mp;rw[e];simp[intItems]
theorem Rep.updList {s:Ab}(R:Rep W fr g σ s){vs:Array Hw}{m:Nat}(tk:Nat)(hn:σ[n]?=ER (.lst l))(hg:g a=.loc n)(ho:s.heap.get? a=ER (qa8 vs m)){f:Array Hw->Array Hw}(hr:RVs W g s.heap l' (f vs).toList)(hp:plains l'=Hq):Rep W fr g (σ.set n (.lst l')) { s with heap:=s.heap.update a (AP f),toks:=tk }/\Evo W noX (·=n) g s.heap g (s.heap.update a (AP f)):=by
  have hnew:=IsL.update ho f;have hother:∀b o,s.heap.get? b=ER o->b≠a->(s.heap.update a (AP f)).get? b=ER o:=λb o q hb=>(Ei _ _ _ _ hb).trans q
  have hk:∀b o,s.heap.get? b=ER o->g b≠.loc n->g b≠.aux n->(s.heap.update a (AP f)).get? b=ER o:=λb o q h1 _=>hother b o q λe=>h1 (e ▸ hg)
  have e:=Evo.setLoc (g':=g) R (n:=n) (λ_ _ _=>rfl) hk;refine ⟨R.setLoc (ao':=.lst l') tk hn (λ_ _ _=>rfl) (λb hb=>.inl (R.newO hb)) hk (λb o q _=>?_) hp (λb hb=>?_),e⟩
  . by_cases hb:b=a
    . subst hb;exact ⟨_,hnew⟩
    . exact ⟨o,hother b o q hb⟩
  . have:b=a:=R.uniq _ _ _ hb hg;subst this;exact ⟨_,_,hnew,hr.up e⟩
theorem qut (h:i<=2 ^ 24):¬(!Builtin.List.listFitsIndex ((i:Nat):Int))=Hq:=by
  simp[FV];lia
theorem qey {s:Ab}(R:Rep W fr g σ s)(hn:σ[n]?=ER (.lst l))(ra:RV W g s.heap (.loc n) va):∃a vs m,va=.ref a/\g a=.loc n/\s.heap.get? a=ER (qa8 vs m)/\RVs W g s.heap l vs.toList:=by
  refine qa4 (ra) ?_;intro a eq_4_1 hg;subst eq_4_1;refine qjb (R.locs n _ hn) ?_;intro a' hg' vs m ho hr;have:a'=a:=R.uniq _ _ _ hg' hg;subst this;exact ⟨a',vs,m,rfl,hg,ho,hr⟩
theorem Iba {a b:AV}(ha:Lv σ a l)(hb:Lv σ b l')(hz:l.length+l'.length<=Ai):Op2 W Y k fr σ (CJ .Add) a b (.lst (l++l')) σ:=λA g s va vb rm R ra rb Q E hQ=>by
  refine qa1 (ha.at R ra) ?_;intro x vs n eq_6_3 ho hr _;subst eq_6_3;refine qa1 (hb.at R rb) ?_;intro y us n' eq_7_3 ho' hr' _;subst eq_7_3;have e1:vs.size=l.length:=by rw[<- Az,hr.length]
  have e2:us.size=l'.length:=by rw[<- Az,hr'.length]
  refine AC ?_ (R.newFz (qa8 (vs++us) 0));intro R2 e2a;refine PySem.P.add_list ho ho' (hQ _ _ _ R2 e2a.no ⟨_,_,_,rfl,qa3,Al _ rfl,?_⟩) (by rw[e1,e2];exact hz);rw[Ej];exact (hr.append hr').up e2a
theorem qdy {vs:Array Hw}:∀n acc,(List.foldl (λx1 x2=>x1++x2) acc (AR n vs)).toList=acc.toList++(AR n vs.toList).flatten
  | 0,acc=>by simp
  | n+1,acc=>by rw[Ek,Fs,qdy n,Ek,Bs,Ej,AF]
theorem RVs.flat {vs:List Hw}(r:RVs W g h l vs):∀n,RVs W g h (AR n l).flatten (AR n vs).flatten
  | 0=>rfl
  | n+1=>by rw[Ek,Bs,Ek,Bs];exact r.append (RVs.flat r n)
theorem qp5 {a:AV}{n:Int}{s:Ab}{vb:Hw}(ha:Lv σ a l)(h0:0<=n)(h1:n<2 ^ 24)(hz:l.length*n.toNat<=2 ^ 24)(R:Rep W fr g σ s)(ra:RV W g s.heap a va)(rb:RV W g s.heap (.int n) vb)(hQ:∀vs,RVs W g s.heap (AR n.toNat l).flatten vs.toList->Q (.ref s.heap.objs.size) { s with heap:=s.heap.push (qa8 vs 0) }):Hs (Hu W.prog W.w) A (CJ .Mult va vb) Q E s:=by
  refine qa1 (ha.at R ra) ?_;intro x vs m eq_9_3 ho hr _;subst eq_9_3;obtain ⟨t,rfl⟩:=rb;have e1:vs.size=l.length:=by rw[<- Az,hr.length]
  have ht:n.toNat<2 ^ 24:=by simp_all
  have fin:Hs (Hu W.prog W.w) A (CJ .Mult (.ref x) (.int n t)) Q E s:=
    wpAny_binaryOp_repeat_ref (T := "list") (U := "int") (by decide) ⟨_,ho,rfl⟩ (λs'=>typeIs_int s' n t) noFill_list_mul PySem.F.fills_int_mul PySem.F.slot_int_rmul repeat_list PySem.F.slot_int_index.lookup
      (EG PySem.F.slot_int_rmul (typeIs_int s n t) PySem.F.entry_int_rmul (PySem.F.args_int_rmul_2 _ _) (int___rmul___int_list n t x vs m)
        ⟨ho,rfl,⟨_,ho,rfl⟩,EG PySem.F.slot_list_mul ⟨_,ho,rfl⟩ PySem.F.entry_list_mul (PySem.F.args_list_mul_2 _ _)
          (AutoListH.list___mul___list_int_3 x vs m n t (by simp[FV];lia) (by rw[e1];lia) (by simp[Ep,Ai];rw[e1];omega))
          ⟨ho,hQ _ ?_⟩⟩)
  . exact fin
  . rw[qdy];by_cases he:vs.isEmpty=Hq
    . rw[if_pos he];have hv:vs=#[]:=by simpa using he
      subst hv;have:l=[]:=by cases l with | nil=>rfl | cons _ _=>simp at e1
      subst this;have e3:(AR n.toNat ([]:List AV)).flatten=[]:=by simp
      rw[e3];simp;rfl
    . rw[if_neg he];exact hr.flat _
theorem Ie0 {a:AV}{n:Int}(ha:Lv σ a l)(h0:0<=n)(h1:n<2 ^ 24)(hz:l.length*n.toNat<=2 ^ 24):Op2 W Y k fr σ (CJ .Mult) a (.int n) (.lst (AR n.toNat l).flatten) σ:=λA g s va vb rm R ra rb Q E hQ=>by
  refine qp5 ha h0 h1 hz R ra rb λvs hr=>?_
  refine AC ?_ (R.newFz (qa8 vs 0));intro R2 e2a;exact hQ _ _ _ R2 e2a.no ⟨_,_,_,rfl,qa3,Al _ rfl,hr.up e2a⟩
theorem Calls.len (hL:Lv σ v l)(hz:l.length<=Ai):Calls W Y k fr σ (.glob (.builtin "len")) [v] [] [] (.int (l.length:Nat)) σ:=λA g s vf us ks rm R rf ru rk Q E hQ=>by
  obtain rfl:vf=.builtin "len":=rf;refine qa2 (ru) ?_;intro u q eq_13_2 r q';subst eq_13_2;obtain rfl:q=[]:=q';refine qa1 (hL.at R r) ?_;intro x vs n eq_14_3 ho hr _;subst eq_14_3;have e1:vs.size=l.length:=by rw[<- Az,hr.length]
  have hs:Ai=2 ^ 24:=rfl;refine PySem.Calls.call_len_list (qah ho) (by lia) ?_;exact hQ _ g _ (R.tok _) Evo.refl ⟨s.toks+1,by rw[e1]⟩
theorem Calls.sum (hL:Lv σ v (qa0 ns)):Calls W Y k fr σ (.glob (.builtin "sum")) [v] [] [] (.int ns.sum) σ:=λA g s vf us ks rm R rf ru rk Q E hQ=>by
  obtain rfl:vf=.builtin "sum":=rf;refine qa2 (ru) ?_;intro u q eq_15_2 r q';subst eq_15_2;obtain rfl:q=[]:=q';refine qa1 (hL.at R r) ?_;intro x vs n eq_16_3 ho hr _;subst eq_16_3;refine qa4 (hr.items) ?_;intro xs eq_17_1 hx;subst eq_17_1;refine sum_intListG rm.handled (qah ho) λh' tk t' hk=>?_
  refine AC ?_ (R.keeps tk hk);intro R1 e1a;refine hQ _ g _ R1 e1a.no ⟨t',?_⟩;rw[preSum_eq,DK (by simp),hx]
theorem ql5 {xs:Array (Int×Tok)}{v:Hw}(hv:(intItems xs)[i]?=ER v):∃t,v=.int (numAt xs i) t/\numAt xs i∈xs.toList.map (·.1):=by
  refine Ap (intItems_at hv) ?_;intro t eq_0_1;subst eq_0_1;refine ⟨t,rfl,?_⟩;simp only[intItems,Array.getElem?_map,Option.map_eq_some_iff] at hv;refine qa4 (hv) ?_;intro p hp _;have:p∈xs.toList:=by rw[<- BB] at hp;exact Av hp
  exact Bg.mpr ⟨p,this,by simp[numAt,hp]⟩
theorem qql {xs:Array (Int×Tok)}{a:Int}(h:a∈xs.toList.map (·.1)):∃j,j<=xs.size - 1/\a=numAt xs j:=by
  refine qa4 (Bg.mp h) ?_;intro p hp eq_21_2;subst eq_21_2;obtain ⟨j,hj,e⟩:=D9.mp hp;have hj':j<xs.size:=by simpa using hj
  refine ⟨j,by omega,?_⟩;have:xs[j]?=ER p:=by rw[<- BB,Aj hj,e]
  simp[numAt,this]
theorem Idz {M:Int}(hL:Lv σ v (qa0 ns))(hM:M∈ns)(hle:∀a∈ns,a<=M):Calls W Y k fr σ (.glob (.builtin "max")) [v] [] [] (.int M) σ:=λA g s vf us ks rm R rf ru rk Q E hQ=>by
  obtain rfl:vf=.builtin "max":=rf;refine qa2 (ru) ?_;intro u q eq_23_2 r q';subst eq_23_2;obtain rfl:q=[]:=q';refine qa1 (hL.at R r) ?_;intro x vs n eq_24_3 ho hr _;subst eq_24_3;refine qa4 (hr.items) ?_;intro xs eq_25_1 eq_25_2;subst eq_25_1;subst eq_25_2;have hne:0<xs.size:=by refine qa4 (Bg.mp hM) ?_;intro p hp _;have:=List.length_pos_of_mem hp;simpa using this
  refine max_intList rm.handled (qah ho) hne λv h' tk hv hk=>?_
  refine AC ?_ (R.keeps tk hk);intro R1 e1a;refine qa4 (ql5 hv) ?_;intro t eq_28_1 hm;subst eq_28_1;refine qa4 (qql hM) ?_;intro j hj e;have h1:=(argBest_gt (numAt xs) (xs.size - 1)).2 j hj;have h2:=hle _ hm;refine hQ _ g _ R1 e1a.no ⟨t,?_⟩;rw[show numAt xs (argBest (λi j=>decide (numAt xs i > numAt xs j)) (xs.size - 1))=M by lia]
theorem Idy {M:Int}(hL:Lv σ v (qa0 ns))(hM:M∈ns)(hle:∀a∈ns,M<=a):Calls W Y k fr σ (.glob (.builtin "min")) [v] [] [] (.int M) σ:=λA g s vf us ks rm R rf ru rk Q E hQ=>by
  obtain rfl:vf=.builtin "min":=rf;refine qa2 (ru) ?_;intro u q eq_30_2 r q';subst eq_30_2;obtain rfl:q=[]:=q';refine qa1 (hL.at R r) ?_;intro x vs n eq_31_3 ho hr _;subst eq_31_3;refine qa4 (hr.items) ?_;intro xs eq_32_1 eq_32_2;subst eq_32_1;subst eq_32_2;have hne:0<xs.size:=by refine qa4 (Bg.mp hM) ?_;intro p hp _;have:=List.length_pos_of_mem hp;simpa using this
  refine min_intList rm.handled (qah ho) hne λv h' tk hv hk=>?_
  refine AC ?_ (R.keeps tk hk);intro R1 e1a;refine qa4 (ql5 hv) ?_;intro t eq_35_1 hm;subst eq_35_1;refine qa4 (qql hM) ?_;intro j hj e;have h1:=(argBest_lt (numAt xs) (xs.size - 1)).2 j hj;have h2:=hle _ hm;refine hQ _ g _ R1 e1a.no ⟨t,?_⟩;rw[show numAt xs (argBest (λi j=>decide (numAt xs i<numAt xs j)) (xs.size - 1))=M by lia]
theorem Iby {a b:Int}:Calls W Y k fr σ (.glob (.builtin "max")) [.int a,.int b] [] [] (.int (Max.max a b)) σ:=λA g s vf us ks rm R rf ru rk Q E hQ=>by
  obtain rfl:vf=.builtin "max":=rf;refine qa2 (ru) ?_;intro u q eq_37_2 ne_37_3 q';subst eq_37_2;obtain ⟨t,rfl⟩:=ne_37_3;refine qa2 (q') ?_;(try clear q');intro u' q2 eq_38_2 ne_38_3 q';subst eq_38_2;obtain ⟨t',rfl⟩:=ne_38_3;obtain rfl:q2=[]:=q';refine max_two_ints rm.handled λh' tk hk=>?_
  obtain ⟨R1,e1a⟩:=R.keeps tk hk;refine hQ _ g _ R1 e1a.no ?_;by_cases hb:b > a
  . rw[if_pos hb];exact ⟨t',by rw[show Max.max a b=b by lia]⟩
  . rw[if_neg hb];exact ⟨t,by rw[show Max.max a b=a by lia]⟩
theorem Idm {a b:Int}:Calls W Y k fr σ (.glob (.builtin "min")) [.int a,.int b] [] [] (.int (Hc a b)) σ:=λA g s vf us ks rm R rf ru rk Q E hQ=>by
  obtain rfl:vf=.builtin "min":=rf;refine qa2 (ru) ?_;intro u q eq_40_2 ne_40_3 q';subst eq_40_2;obtain ⟨t,rfl⟩:=ne_40_3;refine qa2 (q') ?_;(try clear q');intro u' q2 eq_41_2 ne_41_3 q';subst eq_41_2;obtain ⟨t',rfl⟩:=ne_41_3;obtain rfl:q2=[]:=q';refine min_two_ints rm.handled λh' tk hk=>?_
  obtain ⟨R1,e1a⟩:=R.keeps tk hk;refine hQ _ g _ R1 e1a.no ?_;by_cases hb:b<a
  . rw[if_pos hb];exact ⟨t',by rw[show Hc a b=b by grind]⟩
  . rw[if_neg hb];exact ⟨t,by rw[show Hc a b=a by lia]⟩
theorem Calls.append (hn:σ[n]?=ER (.lst l))(hY:Y n)(hp:plain v=Hq)(hz:l.length<=Ai):Calls W Y k fr σ (.glob (.builtin "list.append")) [.loc n,v] [] [] .none (σ.set n (.lst (l++[v]))):=λA g s vf us ks rm R rf ru rk Q E hQ=>by
  obtain rfl:vf=.builtin "list.append":=rf;refine qa2 (ru) ?_;intro u q eq_43_2 r1 q';subst eq_43_2;refine qa2 (q') ?_;(try clear q');intro u' q2 eq_44_2 r2 q';subst eq_44_2;obtain rfl:q2=[]:=q';refine qa1 (qey R hn r1) ?_;intro a vs m eq_45_3 hg ho hr;subst eq_45_3;have e1:vs.size=l.length:=by rw[<- Az,hr.length]
  have hpl:plains l=Hq:=R.pl n _ hn;refine AC ?_ (R.updList (f:=λxs=>xs.push u') (l':=l++[v]) s.toks hn hg ho (by rw[Dp];exact hr.append (show RVs W g s.heap [v] [u'] from ⟨u',[],rfl,r2,rfl⟩)) (by rw[qai,hpl];show (Hq&&(plain v&&Hq))=Hq;rw[hp];rfl));intro R' e';exact EG PySem.F.slot_list_append ⟨_,ho,rfl⟩ PySem.F.entry_list_append (PySem.F.args_list_append_2 _ _) (list_append a vs m u' (by rw[e1];exact hz)) ⟨ho,hQ _ _ _ R' (e'.toN hY) rfl⟩
theorem Ib4 {x:Int}(hx:x=(i:Nat))(hn:σ[n]?=ER (.lst l))(hY:Y n)(hi:i<=l.length)(hp:plain v=Hq)(hz:l.length<=Ai):Calls W Y k fr σ (.glob (.builtin "list.insert")) [.loc n,.int x,v] [] [] .none (σ.set n (.lst (l.take i++[v]++l.drop i))):=λA g s vf us ks rm R rf ru rk Q E hQ=>by
  cases (rf:vf=.builtin "list.insert")
  refine qa2 (ru) ?_;intro u q eq_47_2 r1 q';subst eq_47_2;refine qa2 (q') ?_;(try clear q');intro ui q2 eq_48_2 ne_48_3 q';subst eq_48_2;obtain ⟨t,rfl⟩:=ne_48_3;refine qa2 (q') ?_;(try clear q');intro u' q3 eq_49_2 r2 q';subst eq_49_2;cases (q':q3=[])
  refine qa1 (qey R hn r1) ?_;intro a vs m eq_50_3 hg ho hr;subst eq_50_3;have e1:vs.size=l.length:=by rw[<- Az,hr.length]
  have hs:Ai=2 ^ 24:=rfl;have hpl:plains l=Hq:=R.pl n _ hn;have hpt:∀i,plains (l.take i)=Hq/\plains (l.drop i)=Hq:=λi=>by
    have:=hpl;rw[<- Cu i l,qai,AH] at this;exact this
  have hk:(if x<0 then (x+((vs.size:Nat):Int)).toNat else Hc x.toNat vs.size)=i:=by
    rw[if_neg (by simp_all)];subst hx;simp;simp_all
  obtain ⟨R',e'⟩:=R.updList (f:=λxs=>have k:=if x<0 then (x+((xs.size:Nat):Int)).toNat else Hc x.toNat xs.size;(xs.extract 0 k).push u'++xs.extract k) (l':=l.take i++[v]++l.drop i) s.toks hn hg ho (by
    show RVs W g s.heap _ (((vs.extract 0 (if x<0 then (x+((vs.size:Nat):Int)).toNat else Hc x.toNat vs.size)).push u'++vs.extract (if x<0 then (x+((vs.size:Nat):Int)).toNat else Hc x.toNat vs.size)).toList);rw[hk,Ej,Dp];have h1:(vs.extract 0 i).toList=vs.toList.take i:=by simp
    have h2:(vs.extract i).toList=vs.toList.drop i:=by simp[DK]
    have h3:RVs W g s.heap [v] [u']:=⟨u',[],rfl,r2,rfl⟩
    rw[h1,h2];exact ((hr.take i).append h3).append (hr.drop i)) (by
    rw[qai,qai,(hpt i).1,(hpt i).2];show (Hq&&(plain v&&Hq)&&Hq)=Hq;rw[hp];rfl)
  have h5:i<=2 ^ 24:=by rw[<- hs];exact Af hi hz
  have h6:vs.size<=Ai:=by rw[e1];exact hz
  have h7:¬(!Builtin.List.listFitsIndex x)=Hq:=by rw[hx];exact qut h5
  have M:=AutoListH.list_insert_list_int_val_1 a vs m x t u' h7 h6;refine EG PySem.F.slot_list_insert ⟨_,ho,rfl⟩ PySem.F.entry_list_insert (PySem.F.args_list_insert_3 _ _ _) M ⟨ho,?_⟩;exact hQ _ _ _ R' (e'.toN hY) rfl
theorem Ic8 {x:Int}(hL:Lv σ v (qa0 ns))(hz:ns.length<=1000)(hx:x∈ns):Calls W Y k fr σ (.glob (.builtin "list.index")) [v,.int x] [] [] (.int (ns.idxOf x:Nat)) σ:=λA g s vf us ks rm R rf ru rk Q E hQ=>by
  obtain rfl:vf=.builtin "list.index":=rf;refine qa2 (ru) ?_;intro u q eq_51_2 r1 q';subst eq_51_2;refine qa2 (q') ?_;(try clear q');intro ui q2 eq_52_2 ne_52_3 q';subst eq_52_2;obtain ⟨t,rfl⟩:=ne_52_3;obtain rfl:q2=[]:=q';refine qa1 (hL.at R r1) ?_;intro a vs m eq_53_3 ho hr _;subst eq_53_3;have hi:=hr.ints;have hlen:=hi.length;have hj:ns.idxOf x<ns.length:=List.idxOf_lt_length_iff.mpr hx;refine EG PySem.F.slot_list_index ⟨_,ho,rfl⟩ PySem.F.entry_list_index (PySem.F.args_list_index_2 _ _)
    (SeqAt.list_indexAt a vs m Dt #[] (.int x t) (isInt x) (ns.idxOf x) (by simpa [<- hlen] using hj) (by lia) ?_ ?_) ⟨ho,λy hy=>(eq_isInt x t hi y (by simpa using hy)).at _ _,hQ _ g _ (R.tok _) Evo.refl ⟨_,rfl⟩⟩
  . have:vs[ns.idxOf x]'(by simpa [<- hlen] using hj)=vs.toList[ns.idxOf x]'(by simp_all):=by rfl
    rw[this,isInt_at x hi _ (by lia) hj];simpa using List.getElem_idxOf hj
  . intro j hjs hlt;have:vs[j]=vs.toList[j]'(by simpa using hjs):=by rfl
    rw[this,isInt_at x hi j (by simpa using hjs) (by lia)];exact ne_of_lt_idxOf hlt _
end
end
section
section
theorem Evo.adopt {s:Ab}(R:Rep W fr g σ s)(ga:g a=.other)(gn:W.s1.heap.get? a=Dt)(hk:∀b o,s.heap.get? b=ER o->b≠a->h'.get? b=ER o):Evo W (·=a) noY g s.heap (qbw g a (.loc σ.length)) h':=by
  have hne:∀{b},g b≠.other->b≠a:=λq e=>q (e ▸ ga)
  have hin:∀{b},g b≠.other->qbw g a (.loc σ.length) b=g b:=λq=>qa5 (hne q)
  have hnt:∀{b},W.tab b->b≠a:=λht e=>Iax gn (e ▸ ht)
  exact ⟨λb o ho hx _=>.of (hk b o ho hx),λb o n ho hq _=>hk b o ho (hne (by rcases hq with q | q <;> rw[q] <;> nofun)),λb q hx=>by rw[qa5 hx];exact q,
    λb n q=>by rw[hin (by rw[q];nofun)];exact q,λb n q=>by rw[hin (by rw[q];nofun)];exact q,λb o ho q hx=>.inl (by rw[qa5 hx];exact q),λb o ht ho=>⟨o,hk b o ho (hnt ht)⟩⟩
theorem Rep.adopt {s:Ab}(R:Rep W fr g σ s)(tk:Nat)(ga:g a=.other)(gn:W.s1.heap.get? a=Dt)(hX:XOk (·=a) g s.heap)(hfr:∀en∈fr,∀f,en.frame=ER f->f≠a)(hk:∀b o,s.heap.get? b=ER o->b≠a->h'.get? b=ER o)(ha:∃o,h'.get? a=ER o)(hp:qde ao=Hq)(hr:RO W (qbw g a (.loc σ.length)) h' a σ.length ao):
    Rep W fr (qbw g a (.loc σ.length)) (σ++[ao]) { s with heap:=h',toks:=tk }/\Evo W (·=a) noY g s.heap (qbw g a (.loc σ.length)) h':=by
  have hne:∀{b},g b≠.other->b≠a:=λq e=>q (e ▸ ga)
  have hin:∀{b},g b≠.other->qbw g a (.loc σ.length) b=g b:=λq=>qa5 (hne q)
  have hnb:∀{b o},W.s1.heap.get? b=ER o->b≠a:=λho e=>by rw[e,gn] at ho;cases ho
  have hnt:∀{b},W.tab b->b≠a:=λht e=>Iax gn (e ▸ ht)
  have e:Evo W (·=a) noY g s.heap (qbw g a (.loc σ.length)) h':=⟨λb o ho hx _=>.of (hk b o ho hx),λb o n ho hq _=>hk b o ho (hne (by rcases hq with q | q <;> rw[q] <;> exact nofun)),λb q hx=>by rw[qa5 hx];exact q,
    λb n q=>by rw[hin (by rw[q];exact nofun)];exact q,λb n q=>by rw[hin (by rw[q];exact nofun)];exact q,λb o ho q hx=>.inl (by rw[qa5 hx];exact q),λb o ht ho=>⟨o,hk b o ho (hnt ht)⟩⟩
  have hwl:∀b n,qbw g a (.loc σ.length) b=.loc n->(b=a/\n=σ.length)\/g b=.loc n:=λb n hg=>by
    by_cases hb:b=a
    . subst hb;rw[qa3] at hg;injection hg with hg;exact .inl ⟨rfl,hg.symm⟩
    . rw[qa5 hb] at hg;exact .inr hg
  have hwa:∀b n,qbw g a (.loc σ.length) b=.aux n->g b=.aux n:=λb n hg=>by
    by_cases hb:b=a
    . subst hb;rw[qa3] at hg;cases hg
    . rw[qa5 hb] at hg;exact hg
  have split:∀(n:Nat) (ao':AObj),(σ++[ao])[n]?=ER ao'->σ[n]?=ER ao'\/(n=σ.length/\ao'=ao):=λn ao' ho=>by
    by_cases hn:n<σ.length
    . rw[BI hn] at ho;exact .inl ho
    . rw[BX (Nat.le_of_not_lt hn)] at ho;have hn':n - σ.length=0:=by
        have:=(Ar.mp ho).1;simp at this;assumption
      rw[hn'] at ho;obtain rfl:=Sj ho;exact .inr ⟨by grind,rfl⟩
  refine ⟨⟨λb o ho ht=>hk b o (R.base b o ho ht) (hnb ho),λb o ho=>by rw[qa5 (hnb ho)];exact R.baseO b o ho,λb ht=>by rw[qa5 (hnt ht)];exact R.tabO b ht,λb ht=>?_,λb hb=>?_,λn ao' ho=>?_,
    λb c n hb hc=>?_,λn ao' ho=>?_,λb n hg=>?_,λen he=>?_,R.gens,R.os⟩,e⟩
  . refine qaj (R.tabs b ht) ?_;intro more h2 h3 h4;exact ⟨more,hk b _ h2 (hnt ht),h3,λpos v q=>(h4 pos v q).mono e hX⟩
  . by_cases hq:b=a
    . subst hq;exact ha
    . rw[qa5 hq] at hb;obtain ⟨o',ho'⟩:=R.low b hb;exact ⟨o',hk b o' ho' hq⟩
  . rcases split n ao' ho with q | ⟨rfl,rfl⟩
    . refine qa4 (R.locs n ao' q) ?_;intro b hg hr';exact ⟨b,e.loc b n hg,hr'.mono e hX (λo q=>hk b o q (hne (by rw[hg];exact nofun))) (λd hd o q=>hk d o q (hne (by rw[hd];exact nofun))) ao' (R.pl n ao' q)⟩
    . exact ⟨a,qa3,hr⟩
  . rcases hwl b n hb with ⟨qa,qn⟩ | qa <;> rcases hwl c n hc with ⟨qb,rn⟩ | qb
    . rw[qa,qb]
    . have:=R.bnd c n (.inl qb);simp_all
    . have:=R.bnd b n (.inl qa);simp_all
    . exact R.uniq b c n qa qb
  . rcases split n ao' ho with q | ⟨rfl,rfl⟩
    . exact R.pl n ao' q
    . exact hp
  . rw[An];rcases hg with hg | hg
    . rcases hwl b n hg with ⟨_,q⟩ | q
      . rw[q];exact Cw _
      . exact D4 (R.bnd b n (.inl q))
    . exact D4 (R.bnd b n (.inr (hwa b n hg)))
  . refine qaf (R.frs en he) ?_;intro f o' es ep h1 h2 h3 h4 h5;have hf:=hfr en he f h1;exact ⟨f,o',es,ep,h1,hk f o' h2 hf,h3,by rw[qa5 hf];exact h4,h5⟩
end
noncomputable def prs:List Expr->List Expr->HA->Pos->List (Sem Hw×Sem Hw)
  | e::ks,v::vs,env,p=>(eval e env,do let x <- eval v env;Dx p;pure x)::prs ks vs env p
  | _,_,_,_=>[]
theorem qhu:∀{ks vs:List Expr},ks.length=vs.length->(evalEachOpt (ks.map ER) env).zip ((GT vs env).map λv=>do let x <- v;Dx p;pure x)=(prs ks vs env p).map (λp=>(ER p.1,p.2))
  | [],[],_=>rfl
  | e::ks,v::vs,h=>by
    rw[qbk];show (ER (eval e env),(do let x <- eval v env;Dx p;pure x))::((evalEachOpt (ks.map ER) env).zip ((GT vs env).map λv=>do let x <- v;Dx p;pure x))=_;rw[qhu (by simpa using h)];rfl
  | [],_::_,h=>by simp at h
  | _::_,[],h=>by simp at h
theorem qj5:∀{ks vs:List Expr},ks.length=vs.length->(prs ks vs env p).length=ks.length
  | [],[],_=>rfl
  | e::ks,v::vs,h=>by show (prs ks vs env p).length+1=_;rw[qj5 (by simpa using h)];rfl
  | [],_::_,h=>by simp at h
  | _::_,[],h=>by simp at h
def EvP (C:Cx) (k:Nat) (fr:List HA) (m:List (Option AV)) (σ:List AObj) (ks vs:List Expr) (ka va:List AV) (z':List AObj):Prop:=
  ∀(A:BJ) (env:HA) (g:Ht->Own) (s:Ab) (p:Pos),Room k fr A->Rep C.W fr g σ s->Fra C env m g s.heap->∀(Q:List (Hw×Hw)->Ab->Prop) (E:Hw->Ab->Prop),
    (∀us g' s',Rep C.W fr g' z' s'->Evo C.W noX C.Y g s.heap g' s'.heap->RVs C.W g' s'.heap ka (us.map (·.1))->RVs C.W g' s'.heap va (us.map (·.2))->Q us s') ->
    Hs (Hu C.W.prog C.W.w) A (evalPairs (prs ks vs env p)) Q E s
section
theorem EvP.nil:EvP C k fr m σ [] [] [] [] σ:=λA env g s p rm R F Q E hQ=>evalPairs_nil (hQ [] g s R Evo.refl rfl rfl)
theorem EvP.cons {v:Expr}{ks vs:List Expr}{a b:AV}{ka va:List AV}(he:Ev C k fr m σ e a z1)(hv:Ev C k fr m z1 v b z2)(hr:EvP C k fr m z2 ks vs ka va z'):EvP C k fr m σ (e::ks) (v::vs) (a::ka) (b::va) z':=λA env g s p rm R F Q E hQ=>by
  refine evalPairs_cons (he A env g s rm R F _ _ λx g1 s1a R1 e1a ra=>Aa (hv A env g1 s1a rm R1 (F.up e1a) _ _ λy g2 s2 R2 e2a rb=>Aa (AS (Ad ?_))));exact hr A env g2 s2 p rm R2 ((F.up e1a).up e2a) _ _ λus g3 s3 R3 e3a r1 r2=>hQ _ g3 s3 R3 ((e1a.trans e2a).trans e3a) ⟨x,us.map (·.1),rfl,(ra.up e2a).up e3a,r1⟩ ⟨y,us.map (·.2),rfl,rb.up e3a,r2⟩
theorem qim [DecidableEq K]{knd:KeyKind C.W.prog C.W.w K}{ks vs:List Expr}{kk:List K}{enc:K->AV}{va:List AV}(hkeys:keys=ks.map ER)(hlen:ks.length=vs.length)(h0:ks≠[])(h15:ks.length<=15)(henc:∀(x:K) (u:Hw) (g:Ht->Own) (h:Heap),RV C.W g h (enc x) u->knd.is x u=Hq)(hnd:kk.Nodup)(he:EvP C k fr m σ ks vs (kk.map enc) va z'){s:Ab}(rm:Room k fr A)(R:Rep C.W fr g σ s)(F:Fra C env m g s.heap)(hp:qde ao=Hq)(hao:∀(us:List Hw) (a n:Nat) (g:Ht->Own) (h:Heap),h.DictOf knd a (kk.zip us)->kk.length=us.length->RVs C.W g h va us->RO C.W g h a n ao)(hQ:∀v' g' s',Rep C.W fr g' (z'++[ao]) s'->Evo C.W noX C.Y g s.heap g' s'.heap->RV C.W g' s'.heap (.loc z'.length) v'->Q v' s'):Hs (Hu C.W.prog C.W.w) A (eval (.Dict keys vs p) env) Q E s:=by
  subst hkeys;have htop:=R.top;obtain ⟨R1,e1a⟩:=R.push { cls:=.type "dict",data:=.dict #[] } .other rfl (.inr rfl);have hgo:qbw g s.heap.objs.size .other=g:=by
    funext a
    by_cases ha:a=s.heap.objs.size
    . subst ha;rw[qa3,htop]
    . exact qa5 ha
  rw[hgo] at R1 e1a;have hne:∀b o,s.heap.get? b=ER o->b≠s.heap.objs.size:=λb o ho=>qgj ho
  have hd0:(s.heap.push { cls:=.type "dict",data:=.dict #[] }).get? s.heap.objs.size=ER { cls:=.type "dict",data:=.dict #[] }:=Al _ rfl;refine wpAny_Dict_pairs (knd:=knd) (pairs:=prs ks vs env p) (qhu hlen) (by
    have:=qj5 (env:=env) (p:=p) hlen;intro q;rw[q] at this;cases ks with | nil=>exact h0 rfl | cons _ _=>simp at this) (by rw[qj5 hlen];exact h15) (he A env g _ p rm R1 (F.up e1a) _ _ λus g2 s2 R2 e2a r1 r2=>?_)
  have ga2:g2 s.heap.objs.size=.other:=by
    rcases e2a.oth _ _ hd0 htop (λq=>q) with q | ⟨_,v,q⟩
    . exact q
    . rw[(e2a.keep _ _ hd0 (λq=>q) (.inr ⟨htop,Iax (R.new1 (qag _))⟩)).get] at q;injection q with q;injection q with q1 q2 q3;cases q3
  have hd2:=(e2a.keep _ _ hd0 (λq=>q) (.inr ⟨htop,Iax (R.new1 (qag _))⟩)).get;have hcar:∀{kk:List K} {us:List (Hw×Hw)},RVs C.W g2 s2.heap (kk.map enc) (us.map (·.1))->Carries knd us (kk.zip (us.map (·.2)))/\kk.length=us.length:=by
    intro kk;induction kk with
    | nil=>intro us r;have:us.map (·.1)=[]:=r;cases us with | nil=>exact ⟨Bo,rfl⟩ | cons _ _=>simp at this
    | cons x kk ih=>
      intro us r;refine qa2 (r) ?_;intro v q hv rx rr;cases us with
      | nil=>simp at hv
      | cons u us=>
        obtain ⟨u1,u2⟩:=u;simp at hv;obtain ⟨rfl,rfl⟩:=hv;obtain ⟨i1,i2⟩:=ih rr;exact ⟨⟨henc x u1 _ _ rx,rfl,i1⟩,by simp[i2]⟩
  obtain ⟨hc,hl⟩:=hcar r1;refine ⟨_,hc,⟨_,#[],0,hd2,⟨rfl,rfl,rfl⟩,rfl,λe he=>absurd he (by simp),.nil,by simp⟩,λh' hm hs=>?_⟩;have hmg:G3 [] (kk.zip (us.map (·.2)))=kk.zip (us.map (·.2)):=merged_nil_of_nodup _ (by
    have:(kk.zip (us.map (·.2))).map (·.1)=kk:=by
      rw[<- List.unzip_fst,List.unzip_zip_left (by simp[hl])]
    rw[this];exact hnd)
  rw[hmg] at hm;have hX:XOk (·=s.heap.objs.size) g2 s2.heap:=λb hb=>by
    subst hb;exact ⟨.inl ga2,λo vs ho hd=>by rw[hd2] at ho;obtain rfl:=Sj ho;cases hd⟩
  have hk:∀b o,s2.heap.get? b=ER o->b≠s.heap.objs.size->h'.get? b=ER o:=λb o ho hb=>(hs.2 b hb).trans ho
  have hn1:=R.new1 (qag _);have e3a:=Evo.adopt R2 (h':=h') ga2 hn1 hk;have hm':=hm;refine qbs (hm') ?_;intro o' _ _ ho' _;obtain ⟨R4,e4⟩:=R2.adopt (h':=h') (s2.toks+us.length) ga2 hn1 hX (λen hen f hf q=>by
    refine qdp (R.frs en hen) ?_;intro f' o es ep h3 h4 _;rw[hf] at h3;obtain rfl:=Sj h3;exact hne f o h4 q) hk ⟨o',ho'⟩ (ao:=ao) hp (hao _ _ _ _ _ hm (by simp[hl]) (r2.mono e3a hX va (.inl λb q=>q ▸ ga2) _))
  refine hQ _ _ _ R4 ?_ ⟨_,rfl,qa3⟩;exact (((e1a.no.trans e2a).toX (X:=(·=s.heap.objs.size))).trans e4.toY).weak R.low (λb o ho q=>absurd q (hne b o ho)) λ_ q=>q
theorem Ev.dstr {ks vs:List Expr}{kk:List Hv}{va:List AV}(he:EvP C k fr m σ ks vs (kk.map .str) va z')(hp:plains va=Hq)(hnd:kk.Nodup)(hkeys:keys=ks.map ER)(hlen:ks.length=vs.length)(h0:ks≠[])(h15:ks.length<=15):
    Ev C k fr m σ (.Dict keys vs p) (.loc z'.length) (z'++[.dstr kk va]):=λA env g s rm R F Q E hQ=>
  qim (knd:=Hx C.W.prog C.W.w) (enc:=AV.str) hkeys hlen h0 h15 (λx u g h r=>by obtain ⟨t,rfl⟩:=r;simp[Hx,Value.isStrOf]) hnd he rm R F (ao:=.dstr kk va) hp (λus a n g h hm hl hr=>⟨us,hm,hl,hr⟩) hQ
theorem Ev.dint {ks vs:List Expr}{kk:List Int}{va:List AV}(he:EvP C k fr m σ ks vs (kk.map .int) va z')(hp:plains va=Hq)(hnd:kk.Nodup)(hkeys:keys=ks.map ER)(hlen:ks.length=vs.length)(h0:ks≠[])(h15:ks.length<=15):
    Ev C k fr m σ (.Dict keys vs p) (.loc z'.length) (z'++[.dint kk va]):=λA env g s rm R F Q E hQ=>
  qim (knd:=Hy C.W.prog C.W.w) (enc:=AV.int) hkeys hlen h0 h15 (λx u g h r=>by obtain ⟨t,rfl⟩:=r;simp[Hy,Value.isInt]) hnd he rm R F (ao:=.dint kk va) hp (λus a n g h hm hl hr=>⟨us,hm,hl,hr⟩) hQ
theorem qlr (hp:qde ao=Hq){s:Ab}(R:Rep C.W fr g σ s)(hao:∀(a n:Nat) (g:Ht->Own) (h:Heap),h.get? a=ER { cls:=.type "dict",data:=.dict #[] }->RO C.W g h a n ao)(hQ:∀v' g' s',Rep C.W fr g' (σ++[ao]) s'->Evo C.W noX C.Y g s.heap g' s'.heap->RV C.W g' s'.heap (.loc σ.length) v'->Q v' s'):Hs (Hu C.W.prog C.W.w) A (eval (.Dict [] [] p) env) Q E s:=by
  rw[eval_Dict_empty];refine Aa (AS ?_);refine AC ?_ (R.pushLoc { cls:=.type "dict",data:=.dict #[] } (ao:=ao) hp (hao _ _ _ _ (Al _ rfl)));intro R2 e2a;exact Bx (hQ _ _ _ R2 e2a.no ⟨_,rfl,qa3⟩) (by size_fits)
theorem Icj:Ev C k fr m σ (.Dict [] [] p) (.loc σ.length) (σ++[.dstr [] []]):=λA env g s rm R F Q E hQ=>
  qlr (ao:=.dstr [] []) rfl R (λa n g h ho=>⟨[],⟨_,#[],0,ho,⟨rfl,rfl,rfl⟩,rfl,λe he=>absurd he (by simp),.nil,by simp⟩,rfl,rfl⟩) hQ
end
end
section
section
theorem qdq {s:Ab}(R:Rep W fr g σ s)(hg:g a=.loc n):(a==Cy)=Hr:=by
  have:a≠Cy:=λq=>by
    subst q;refine Ap W.sm ?_;intro o ho;rcases R.baseO _ o ho with q | q <;> rw[hg] at q <;> cases q
  simpa using this
noncomputable def qbr {K:Type} [DecidableEq K] (ks:List K) (vs:List AV) (x:K):Option AV:=((ks.zip vs).find? λkv=>kv.1=x).map (·.2)
theorem qc1 [DecidableEq K]{x:K}:∀{ks:List K} {vs:List AV} {us:List Hw},RVs W g h vs us->(∀av,qbr ks vs x=ER av->∃u,Hd (ks.zip us) x=ER u/\RV W g h av u)/\(qbr ks vs x=Dt->ks.length=us.length->Hd (ks.zip us) x=Dt)
  | [],_,_,_=>⟨λ_ q=>by simp[qbr] at q,λ_ _=>rfl⟩
  | y::ks,[],us,r=>⟨λ_ q=>by simp[qbr] at q,λ_ hl=>by obtain rfl:us=[]:=r;simp at hl⟩
  | y::ks,v::vs,us,r=>by
    refine qa2 (r) ?_;intro u q eq_1_2 r1 r2;subst eq_1_2;obtain ⟨i1,i2⟩:=qc1 (x:=x) (ks:=ks) r2;unfold qbr Hd at *;rw[Bl,Bl,Fw,Fw];by_cases hy:y=x
    . subst hy;simp only[decide_true];exact ⟨λav e=>by simp at e;subst e;exact ⟨u,rfl,r1⟩,λe=>by simp at e⟩
    . simp only[hy,decide_false];exact ⟨i1,λe hl=>i2 e (by simpa using hl)⟩
theorem Idr {ks:List Int}{x:Int}{b:Bool}(hn:σ[n]?=ER (.dint ks vs))(hb:b=(qbr ks vs x).isSome):Op2 W Y k fr σ (Cz .In) (.int x) (.loc n) (.bool b) σ:=λA g s va vb rm R ra rb Q E hQ=>by
  obtain ⟨t,rfl⟩:=ra;refine qa4 (rb) ?_;intro a eq_4_1 hg;subst eq_4_1;refine qcy (R.locs n _ hn) ?_;intro a' hg' us hm hl hr;have:a'=a:=R.uniq _ _ _ hg' hg;subst this;have e:(Hd (ks.zip us) x).isSome=b:=by
    rw[hb];obtain ⟨i1,i2⟩:=qc1 (x:=x) (ks:=ks) hr;cases hq:qbr ks vs x with
    | none=>rw[i2 hq hl];rfl
    | some av=>refine qa4 (i1 av hq) ?_;intro u hu _;rw[hu];rfl
  refine wpAny_in_of (knd:=Hy W.prog W.w) (k:=x) (by simp[Hy,Value.isInt]) (qdq R hg) hm.mapOf ?_;rw[e];exact hQ _ g _ (R.tok _) Evo.refl rfl
end
section
theorem qin:A6 (.type "dict") "__getitem__"=pure (ER (.builtin "dict.__getitem__")):=PySem.slot_dict_getitem.lookup
theorem Idv {i:Expr}(he:Ev C k fr m σ e (.loc n) z1)(hi:Ev C k fr m z1 i (.str x) z')(hn:z'[n]?=ER (.dstr ks vs))(hx:qbr ks vs x=ER v)(hs:autoParam (∀o w,GU i Hr o w=operate [o,w] (getItem o w)) ap0._auto_1):Ev C k fr m σ (.Subscript e i p) v z':=λA env g s rm R F Q E hQ=>by
  refine PyProof.Rows.Subscript_ (he A env g s rm R F _ _ λva g1 s1a R1 e1a ra=>hi A env g1 s1a rm R1 (F.up e1a) _ _ λvi g2 s2 R2 e2a rx=>?_);obtain ⟨t,rfl⟩:=rx;refine qa4 (ra.up e2a) ?_;intro a eq_9_1 hg;subst eq_9_1;refine qcy (R2.locs n _ hn) ?_;intro a' hg' us hm hl hr;have:a'=a:=R2.uniq _ _ _ hg' hg;subst this;refine qa4 ((qc1 (x:=x) (ks:=ks) hr).1 v hx) ?_;intro u hu ru;refine GV hm.typeIs qin (wpAny_getItem_of (knd:=Hx C.W.prog C.W.w) (k:=x) (by simp[Hx,Value.isStrOf]) hm.mapOf hu ?_) (hs _ _);exact hQ _ g2 _ (R2.tok _) (e1a.trans e2a) ru
theorem Idw {i:Expr}{ks:List Int}{x:Int}(he:Ev C k fr m σ e (.loc n) z1)(hi:Ev C k fr m z1 i (.int x) z')(hn:z'[n]?=ER (.dint ks vs))(hx:qbr ks vs x=ER v)(hs:autoParam (∀o w,GU i Hr o w=operate [o,w] (getItem o w)) ap0._auto_1):Ev C k fr m σ (.Subscript e i p) v z':=λA env g s rm R F Q E hQ=>by
  refine PyProof.Rows.Subscript_ (he A env g s rm R F _ _ λva g1 s1a R1 e1a ra=>hi A env g1 s1a rm R1 (F.up e1a) _ _ λvi g2 s2 R2 e2a rx=>?_);obtain ⟨t,rfl⟩:=rx;refine qa4 (ra.up e2a) ?_;intro a eq_13_1 hg;subst eq_13_1;refine qcy (R2.locs n _ hn) ?_;intro a' hg' us hm hl hr;have:a'=a:=R2.uniq _ _ _ hg' hg;subst this;refine qa4 ((qc1 (x:=x) (ks:=ks) hr).1 v hx) ?_;intro u hu ru;refine GV hm.typeIs qin (wpAny_getItem_of (knd:=Hy C.W.prog C.W.w) (k:=x) (by simp[Hy,Value.isInt]) hm.mapOf hu ?_) (hs _ _);exact hQ _ g2 _ (R2.tok _) (e1a.trans e2a) ru
noncomputable def qfq {K:Type} [DecidableEq K] (ks:List K) (vs:List AV) (x:K) (v:AV):List K×List AV:=if x∈ks then (ks,(ks.zip vs).map λkv=>if kv.1=x then v else kv.2) else (ks++[x],vs++[v])
theorem qeo [DecidableEq K]{x:K}{u:Hw}{ks:List K}{us:List Hw}(hl:ks.length=us.length)(hr:RVs W g h vs us)(ru:RV W g h v u):
    ∃us',Hh (ks.zip us) x u=(qfq ks vs x v).1.zip us'/\(qfq ks vs x v).1.length=us'.length/\RVs W g h (qfq ks vs x v).2 us':=by
  unfold Hh qfq;by_cases hx:x∈ks
  . have hany:((ks.zip us).any λkv=>decide (kv.1=x))=Hq:=by
      obtain ⟨i,hi,e⟩:=D9.mp hx;refine E8.mpr ⟨(ks[i],us[i]'(by lia)),?_,by simp[e]⟩;exact D9.mpr ⟨i,by simp;lia,by simp⟩
    rw[if_pos hany,if_pos hx];have key:∀(ks:List K) (vs:List AV) (us:List Hw),ks.length=us.length->RVs W g h vs us->(ks.zip us).map (λkv=>if kv.1=x then (kv.1,u) else kv)=ks.zip ((ks.zip us).map λkv=>if kv.1=x then u else kv.2) /\
        RVs W g h ((ks.zip vs).map λkv=>if kv.1=x then v else kv.2) ((ks.zip us).map λkv=>if kv.1=x then u else kv.2):=by
      intro ks;induction ks with
      | nil=>intro vs us _ _;exact ⟨rfl,rfl⟩
      | cons y ks ih=>
        intro vs us hl r;cases us with
        | nil=>simp at hl
        | cons w us=>
          cases vs with
          | nil=>cases (r:w::us=[])
          | cons a vs=>
            refine qa2 (r) ?_;intro w' us' e r1 r2;injection e with e1 e2
            subst e1 e2;obtain ⟨i1,i2⟩:=ih vs us (by simpa using hl) r2;constructor
            . simp only[Bl,Bp];rw[<- i1];by_cases hy:y=x <;> simp[hy]
            . simp only[Bl,Bp];refine ⟨_,_,rfl,?_,i2⟩;by_cases hy:y=x
              . simp only[hy,if_true];exact ru
              . simp only[hy,if_false];exact r1
    obtain ⟨k1,k2⟩:=key ks vs us hl hr;exact ⟨_,k1,by simp[hl],k2⟩
  . have hany:((ks.zip us).any λkv=>decide (kv.1=x))=Hr:=by
      rw[Bool.eq_false_iff];intro q;refine qa4 (E8.mp q) ?_;intro ne_20_0 hm e;obtain ⟨y,w⟩:=ne_20_0;have:=(GP hm).1;simp at e;exact hx (e ▸ this)
    rw[if_neg (by rw[hany];simp),if_neg hx];refine ⟨us++[u],?_,by simp[hl],hr.append ⟨u,[],rfl,ru,rfl⟩⟩;rw[List.zip_append hl];rfl
theorem qes [DecidableEq K]{x:K}(hv:plain v=Hq):∀{ks:List K} {vs:List AV},plains vs=Hq->plains (qfq ks vs x v).2=Hq:=by
  intro ks vs h;unfold qfq;split
  . have key:∀(ks:List K) (vs:List AV),plains vs=Hq->plains ((ks.zip vs).map λkv=>if kv.1=x then v else kv.2)=Hq:=by
      intro ks;induction ks with
      | nil=>intro vs _;rfl
      | cons y ks ih=>
        intro vs h;cases vs with
        | nil=>rfl
        | cons a vs=>
          have h':(plain a&&plains vs)=Hq:=h;rw[AH] at h';simp only[Bl,Bp];show (plain (if y=x then v else a)&&plains _)=Hq;rw[ih vs h'.2];by_cases hy:y=x
          . rw[if_pos hy,hv];rfl
          . rw[if_neg hy,h'.1];rfl
    exact key ks vs h
  . rw[qai,h];show (Hq&&(plain v&&Hq))=Hq;rw[hv];rfl
theorem Rep.updDict {s:Ab}(R:Rep W fr g σ s){ao':AObj}(tk:Nat)(hn:σ[n]?=ER ao)(hg:g a=.loc n)(hs:AI a s.heap h')(ha:∃o,h'.get? a=ER o)(hp:qde ao'=Hq)(hr:Evo W noX (·=n) g s.heap g h'->RO W g h' a n ao'):Rep W fr g (σ.set n ao') { s with heap:=h',toks:=tk }/\Evo W noX (·=n) g s.heap g h':=by
  have hk:∀b o,s.heap.get? b=ER o->g b≠.loc n->g b≠.aux n->h'.get? b=ER o:=λb o q h1 _=>(hs.2 b λe=>h1 (e ▸ hg)).trans q
  have e:=Evo.setLoc (g':=g) R (n:=n) (λ_ _ _=>rfl) hk;refine ⟨R.setLoc (ao':=ao') tk hn (λ_ _ _=>rfl) (λb hb=>.inl (R.newO hb)) hk (λb o q _=>?_) hp (λb hb=>?_),e⟩
  . by_cases hb:b=a
    . subst hb;exact ha
    . exact ⟨o,(hs.2 b hb).trans q⟩
  . have:b=a:=R.uniq _ _ _ hb hg;subst this;exact hr e
theorem qok {o i:Expr}{v:Hw}{s:Ab}{Q:Unit->Ab->Prop}(h:Hs M A (eval o env) (λov s1a=>Hs M A (eval i env) (λiv s2=>Hs M A (setItem ov iv v) Q E s2) E s1a) E s):
    Hs M A (PySem.assign (.Subscript o i p) env v) Q E s:=by
  rw[arm_assign_Subscript];refine Aa (AK (AD h (λov s1a h1a=>Aa (AK (AD h1a (λiv s2 h2a=>?_) λ_ _ e=>e))) λ_ _ e=>e));exact Aa (AS (Aa (AK (AD h2a (λ_ s3 h3=>wpAny_release h3) λ_ _ e=>e))))
theorem Ieg {o i:Expr}(he:Ev C k fr m σ o (.loc n) z1)(hi:Ev C k fr m z1 i (.str x) z2)(hn:z2[n]?=ER (.dstr ks vs))(hY:C.Y n)(hp:plain v=Hq)(hz:autoParam (ks.length<=Ai) ap2._auto_1):
    As C k fr m σ (.Subscript o i p) v m (z2.set n (.dstr (qfq ks vs x v).1 (qfq ks vs x v).2)):=λA env g s u rm R F ru Q E hQ=>by
  refine qok (he A env g s rm R F _ _ λva g1 s1a R1 e1a ra=>hi A env g1 s1a rm R1 (F.up e1a) _ _ λvi g2 s2 R2 e2a rx=>?_);obtain ⟨t,rfl⟩:=rx;refine qa4 (ra.up e2a) ?_;intro a eq_22_1 hg;subst eq_22_1;refine qcy (R2.locs n _ hn) ?_;intro a' hg' us hm hl hr;have:a'=a:=R2.uniq _ _ _ hg' hg;subst this;refine wpAny_setItem_pairs (knd:=Hx C.W.prog C.W.w) (k:=x) (by simp[Hx,Value.isStrOf]) hm (λh' hm' hs=>?_) (by rw[CR];simp_all);have hm2:=hm';refine qbs (hm2) ?_;intro o' _ _ ho' _;obtain ⟨R3,e3a⟩:=R2.updDict (ao':=.dstr (qfq ks vs x v).1 (qfq ks vs x v).2) (s2.toks+1) hn hg hs ⟨o',ho'⟩ (qes hp (R2.pl n _ hn)) (λe=>by
    refine qaj (qeo (x:=x) hl (hr.up e) ((ru.up (e1a.trans e2a)).up e)) ?_;intro us' h1 h2 h3;exact ⟨us',by rw[<- h1];exact hm',h2,h3⟩)
  have e:=(e1a.trans e2a).trans (e3a.toN hY);exact hQ g2 _ R3 e.toX (F.up e)
theorem Ieh {o i:Expr}{ks:List Int}{x:Int}(he:Ev C k fr m σ o (.loc n) z1)(hi:Ev C k fr m z1 i (.int x) z2)(hn:z2[n]?=ER (.dint ks vs))(hY:C.Y n)(hp:plain v=Hq)(hz:ks.length<=Ai):
    As C k fr m σ (.Subscript o i p) v m (z2.set n (.dint (qfq ks vs x v).1 (qfq ks vs x v).2)):=λA env g s u rm R F ru Q E hQ=>by
  refine qok (he A env g s rm R F _ _ λva g1 s1a R1 e1a ra=>hi A env g1 s1a rm R1 (F.up e1a) _ _ λvi g2 s2 R2 e2a rx=>?_);obtain ⟨t,rfl⟩:=rx;refine qa4 (ra.up e2a) ?_;intro a eq_27_1 hg;subst eq_27_1;refine qcy (R2.locs n _ hn) ?_;intro a' hg' us hm hl hr;have:a'=a:=R2.uniq _ _ _ hg' hg;subst this;refine wpAny_setItem_pairs (knd:=Hy C.W.prog C.W.w) (k:=x) (by simp[Hy,Value.isInt]) hm (λh' hm' hs=>?_) (by rw[CR];simp_all);have hm2:=hm';refine qbs (hm2) ?_;intro o' _ _ ho' _;obtain ⟨R3,e3a⟩:=R2.updDict (ao':=.dint (qfq ks vs x v).1 (qfq ks vs x v).2) (s2.toks+1) hn hg hs ⟨o',ho'⟩ (qes hp (R2.pl n _ hn)) (λe=>by
    refine qaj (qeo (x:=x) hl (hr.up e) ((ru.up (e1a.trans e2a)).up e)) ?_;intro us' h1 h2 h3;exact ⟨us',by rw[<- h1];exact hm',h2,h3⟩)
  have e:=(e1a.trans e2a).trans (e3a.toN hY);exact hQ g2 _ R3 e.toX (F.up e)
end
end
section
open PySem.Builtin PySem.Builtin.Str
section
noncomputable abbrev qb7 (ss:List Hz):List AV:=ss.map .str
theorem RVs.strs:∀{ss:List Hz} {vs:List Hw},RVs W g h (qb7 ss) vs->StrsAre vs ss
  | [],vs,r=>by obtain rfl:vs=[]:=r;exact .nil
  | x::ss,vs,r=>by refine qa2 (r) ?_;intro v q eq_0_2 ne_0_3 r2;subst eq_0_2;obtain ⟨t,rfl⟩:=ne_0_3;exact .cons x t (RVs.strs r2)
theorem Ic2:∀(l:List (Hz×Tok)),RVs W g h (qb7 (l.map (·.1))) (strValues l)
  | []=>rfl
  | (x,t)::l=>⟨.str x t,strValues l,rfl,⟨t,rfl⟩,Ic2 l⟩
theorem Ibp {i:Int}(hz:(Er "0x" 16 i).length<=Ai):Calls W Y k fr σ (.glob (.builtin "hex")) [.int i] [] [] (.str (Er "0x" 16 i)) σ:=λA g s vf us ks rm R rf ru rk Q E hQ=>by
  obtain rfl:vf=.builtin "hex":=rf;refine qa2 (ru) ?_;intro u q eq_1_2 ne_1_3 q';subst eq_1_2;obtain ⟨t,rfl⟩:=ne_1_3;obtain rfl:q=[]:=q';exact P.hex_of_int (hQ _ g _ (R.tok _) Evo.refl ⟨_,rfl⟩) hz
theorem Calls.join {x:Hz}{ss:List Hz}(hL:Lv σ v (qb7 ss))(hok:(ss.map (·.length)).sum+ss.length*x.length<=16777216):Calls W Y k fr σ (.glob (.builtin "str.join")) [.str x,v] [] [] (.str (FW x ss)) σ:=λA g s vf us ks rm R rf ru rk Q E hQ=>by
  obtain rfl:vf=.builtin "str.join":=rf;refine qa2 (ru) ?_;intro u q eq_2_2 ne_2_3 q';subst eq_2_2;obtain ⟨t,rfl⟩:=ne_2_3;refine qa2 (q') ?_;(try clear q');intro u2 q2 eq_3_2 r2 q';subst eq_3_2;obtain rfl:q2=[]:=q';refine qa1 (hL.at R r2) ?_;intro a vs m eq_4_3 ho hr _;subst eq_4_3;exact join_list (qah ho) hr.strs hok λt' tk=>hQ _ g _ (R.tok _) Evo.refl ⟨t',rfl⟩
theorem Id5 {x:Hz}{ss:List Hz}(hss:Txt.words x=ss)(hsz:x.length<=Ai)(hsz2:(spaceWords x (x.length+1)).length<=Ai):Calls W Y k fr σ (.glob (.builtin "str.split")) [.str x] [] [] (.lst (qb7 ss)) σ:=λA g s vf us ks rm R rf ru rk Q E hQ=>by
  obtain rfl:vf=.builtin "str.split":=rf;refine qa2 (ru) ?_;intro u q eq_5_2 ne_5_3 q';subst eq_5_2;obtain ⟨t,rfl⟩:=ne_5_3;obtain rfl:q=[]:=q';have fin:∀(l:List (Hz×Tok)) (tk:Nat),l.map (·.1)=ss->Q (.ref s.heap.objs.size) { s with heap:=s.heap.push (qa8 (strValues l).toArray 0),toks:=tk }:=λl tk hl=>by
    obtain ⟨R2,e2a⟩:=R.newFz (qa8 (strValues l).toArray 0);refine hQ _ _ _ (R2.tok tk) e2a.no ⟨_,_,_,rfl,qa3,Al _ rfl,?_⟩;rw[<- hl];exact Ic2 l
  refine EG PySem.F.slot_str_split (typeIs_str _ _ _) PySem.F.entry_str_split (PySem.F.args_str_split_1 _) (meets_str_split_space x t hsz hsz2) ?_;cases hw:spaceWords x (x.length+1)==[(0,x.length)]
  . simp only[Bj,if_false];rw[strsFrom_eq];exact fin (numbered s.toks (PySem.wordsOf x)) _ (((numbered_texts _ _).trans (if_neg (ne_true_of_eq_false hw)).symm).trans hss)
  . simp only[if_true];exact fin [(x,t)] _ (((if_pos hw).symm:[x]=Txt.words x).trans hss)
theorem Idj {i:Int}(hi:i.natAbs<4611686018427387904):Calls W Y k fr σ (.glob (.type "str")) [.int i] [] [] (.str (Bh (toString i))) σ:=λA g s vf us ks rm R rf ru rk Q E hQ=>by
  cases (rf:vf=.type "str")
  refine qa2 (ru) ?_;intro u q eq_7_2 ne_7_3 q';subst eq_7_2;obtain ⟨t,rfl⟩:=ne_7_3;cases (q':q=[])
  refine str_of_int_fit (N:=4611686018427387904) (by split <;> omega) (Ca _) λ_=>?_
  exact hQ _ g _ (R.tok _) Evo.refl ⟨_,rfl⟩
theorem Ie2 {x y:Hz}(hz:x.length+y.length<=Ai):Op2 W Y k fr σ (CJ .Add) (.str x) (.str y) (.str (x++y)) σ:=λA g s va vb rm R ra rb Q E hQ=>by
  obtain ⟨t,rfl⟩:=ra;obtain ⟨u,rfl⟩:=rb;exact SB.add (λt' tk=>hQ _ g _ (R.tok _) Evo.refl ⟨t',rfl⟩) hz
theorem MethOk.str {x:Hz}{n:Hz}{id:String}(slot:Slot "str" n id)(hty:typeOf (.builtin id)=pure (.type "method_descriptor")):MethOk W fr σ (.str x) n (.glob (.builtin id)) [.str x]:=λA g s va pl Q E R ra hQ=>by
  obtain ⟨t,rfl⟩:=ra;exact Gd (typeIs_str _ _ _) PySem.F.plainAttrs_str slot hty (λa e=>by cases e) (hQ _ _ s R rfl rfl ⟨_,[],rfl,⟨t,rfl⟩,rfl⟩)
structure qiu (W:Wd) (a:Ht) (kvs:List (Int×Hz)):Prop where
  nt:¬W.tab a
  ns:(a==Cy)=Hr
  at_:∃us,W.s1.heap.DictOf (Hy W.prog W.w) a ((kvs.map (·.1)).zip us)/\StrsAre us (kvs.map (·.2))
theorem MethOk.tab {kvs:List (Int×Hz)}(T:qiu W a kvs):MethOk W fr σ (.glob (.ref a)) "get" (.glob (.builtin "dict.get")) [.glob (.ref a)]:=λA g s va pl Q E R ra hQ=>by
  obtain rfl:va=.ref a:=ra;refine qa4 (T.at_) ?_;intro us hm _;have hm':s.heap.DictOf (Hy W.prog W.w) a ((kvs.map (·.1)).zip us):=by
    rw[Cp] at hm ⊢;refine qa4 (hm) ?_;intro o ho q;exact ⟨o,R.base a o ho T.nt,q⟩
  exact Gd hm'.typeIs PySem.F.plainAttrs_dict PySem.F.slot_dict_get PySem.F.type_dict_get (λb e=>by
    cases e
    refine qap (hm') ?_;intro o es ep ho hx _;exact ⟨o,ho,hx.2.1⟩) (hQ _ _ s R rfl rfl ⟨_,[],rfl,rfl,rfl⟩)
theorem qmh:∀{ks:List Int} {us:List Hw} {ss:List Hz} {x:Int},ks.length=ss.length->StrsAre us ss->(∀y,(ks.zip ss).lookup x=ER y->∃t,Hd (ks.zip us) x=ER (.str y t))/\((ks.zip ss).lookup x=Dt->Hd (ks.zip us) x=Dt)
  | [],_,_,x,_,_=>⟨λy q=>by simp at q,λ_=>rfl⟩
  | c::ks,_,[],x,hl,_=>by simp at hl
  | c::ks,us,y::ss,x,hl,r=>by
    cases r with
    | cons _ t r=>
      rename_i us;obtain ⟨i1,i2⟩:=qmh (ks:=ks) (x:=x) (by simpa using hl) r;unfold Hd at *;rw[Bl,Bl,AZ,Fw];by_cases hc:c=x
      . subst hc;simp only[beq_self_eq_true,decide_true];exact ⟨λy' e=>by obtain rfl:=Sj e;exact ⟨t,rfl⟩,λe=>by cases e⟩
      . have:(x==c)=Hr:=by simp;exact λq=>hc q.symm
        rw[this];simp only[hc,decide_false];exact ⟨i1,i2⟩
theorem Calls.get {kvs:List (Int×Hz)}{x:Int}{d:Hz}(T:qiu W a kvs):Calls W Y k fr σ (.glob (.builtin "dict.get")) [.glob (.ref a),.int x,.str d] [] [] (.str ((((kvs.map (·.1)).zip (kvs.map (·.2))).lookup x).getD d)) σ:=λA g s vf us ks rm R rf ru rk Q E hQ=>by
  obtain rfl:vf=.builtin "dict.get":=rf;refine qa2 (ru) ?_;intro u q eq_15_2 r1 q';subst eq_15_2;obtain rfl:u=.ref a:=r1;refine qa2 (q') ?_;(try clear q');intro u2 q2 eq_16_2 ne_16_3 q';subst eq_16_2;obtain ⟨t,rfl⟩:=ne_16_3;refine qa2 (q') ?_;(try clear q');intro u3 q3 eq_17_2 ne_17_3 q';subst eq_17_2;obtain ⟨t',rfl⟩:=ne_17_3;obtain rfl:q3=[]:=q';refine qa4 (T.at_) ?_;intro us hm hs;have hm':s.heap.DictOf (Hy W.prog W.w) a ((kvs.map (·.1)).zip us):=by
    rw[Cp] at hm ⊢;refine qa4 (hm) ?_;intro o ho q;exact ⟨o,R.base a o ho T.nt,q⟩
  have hh:G2 table "dict.get"=ER Ax.«dict.get»:=PySem.F.entry_dict_get;refine E9 (CL PySem.F.slot_dict_get.plain hh (PySem.F.slot_dict_get.check _ _ _ _ _ _ _ _ hm'.typeIs (PySem.F.args_dict_get_3 _ _ _) ?_));refine meets_dict_get_default (Hy W.prog W.w) a (k:=x) (key:=.int x t) (by simp[Hy,Value.isInt]) T.ns (.str d t') A (λr s'=>match r with | .ok (.ret v)=>Q v s' | .ok _=>False | .error e=>E e s') s ⟨_,hm'.mapOf,?_⟩;obtain ⟨i1,i2⟩:=qmh (ks:=kvs.map (·.1)) (ss:=kvs.map (·.2)) (x:=x) (by simp) hs;show Q _ _;refine hQ _ g _ (R.tok _) Evo.refl ?_;cases hq:((kvs.map (·.1)).zip (kvs.map (·.2))).lookup x with
  | none=>rw[i2 hq];exact ⟨t',rfl⟩
  | some y=>obtain ⟨t2,e⟩:=i1 y hq;rw[e];exact ⟨t2,rfl⟩
theorem Icc {ks:List Hz}(hn:σ[n]?=ER (.dstr ks vs)):Calls W Y k fr σ (.glob (.builtin "hasattr")) [.loc n,.str "tag"] [] [] (.bool Hr) σ:=λA g s vf us ks' rm R rf ru rk Q E hQ=>by
  obtain rfl:vf=.builtin "hasattr":=rf;refine qa2 (ru) ?_;intro v1 q1 eq_22_2 r1 q;subst eq_22_2;refine qa2 (q) ?_;(try clear q);intro v2 q2 eq_23_2 ne_23_3 q;subst eq_23_2;obtain ⟨t,rfl⟩:=ne_23_3;obtain rfl:q2=[]:=q;refine qa4 (r1) ?_;intro a eq_24_1 hg;subst eq_24_1;refine qcy (R.locs n _ hn) ?_;intro a' hg' us hm hl hr;have:a'=a:=R.uniq _ _ _ hg' hg;subst this;refine qa1 (hm) ?_;intro ne_26_0 es ep ho ne_26_4 hd _;obtain ⟨c,dct,dat,sl⟩:=ne_26_0;obtain ⟨h1,h2,h3⟩:=ne_26_4;simp only at h1 h2 h3 hd;subst h1 h2 h3 hd;refine qcb ho rfl qg3 qgr (qjw rm.handled ho qgr (by decide) (λh' tk e hx'=>?_) (by decide));obtain ⟨R',e'⟩:=qjc R hx' tk;exact ⟨e,rfl,(by refine qa2 (hx'.there) ?_;intro ob _ q1 q2 _;exact ⟨ob,q1,q2⟩),hQ _ g _ R' e'.no rfl⟩
theorem Ibv {ks ks':List Hz}{vs':List AV}(hn:σ[n]?=ER (.dstr ks vs))(hn':σ[n']?=ER (.dstr ks' vs'))(hl:ks.length=ks'.length)(hlv:ks.length=vs.length)(hd:∀v∈vs,isD v=Hq/\(toP v).depth<=64)(hsub:∀(i:Nat) (x:Hz) (v:AV),ks[i]?=ER x->vs[i]?=ER v->qbr ks' vs' x=ER v):Op2 W Y k fr σ (Cz .Eq) (.loc n) (.loc n') (.bool Hq) σ:=λA g s va vb rm R ra rb Q E hQ=>by
  refine qa4 (ra) ?_;intro a eq_29_1 hg;subst eq_29_1;refine qa4 (rb) ?_;intro b eq_30_1 hg2;subst eq_30_1;refine qcy (R.locs n _ hn) ?_;intro a' hga us hm hl1 hr;have:a'=a:=R.uniq _ _ _ hga hg;subst this;refine qcy (R.locs n' _ hn') ?_;intro b' hgb us' hm' hl2 hr';have:b'=b:=R.uniq _ _ _ hgb hg2;subst this;have hu:A.units<cLine:=rm.line;have hu2:A.in1.units+64<cLine:=by have h1:=rm.units;have h3:cLine=9900:=rfl;show A.units+1+64<cLine;lia
  have hits:∀(l1:List Hz) (l2:List AV) (l3:List Hw),l1.length=l2.length->RVs W g s.heap l2 l3->(∀v∈l2,isD v=Hq/\(toP v).depth<=64)->(∀(i:Nat) (x:Hz) (v:AV),l1[i]?=ER x->l2[i]?=ER v->qbr ks' vs' x=ER v)->KeqHits A.in1 s (ks'.zip us') (l1.zip l3) Hq:=by
    intro l1;induction l1 with
    | nil=>intro l2 l3 _ _ _ _;exact .nil
    | cons x l1 ih=>
      intro l2 l3 e1 r hd hs;cases l2 with
      | nil=>simp at e1
      | cons v l2=>
        refine qa2 (r) ?_;intro w q eq_33_2 r1 r2;subst eq_33_2;refine qa4 ((qc1 (x:=x) (ks:=ks') hr').1 v (hs 0 x v rfl rfl)) ?_;intro w' hw' rw';refine AC ?_ (hd v Ac);intro h1 h2;refine Ap (r1.reads v h1 _) ?_;intro as ra;refine Ap (rw'.reads v h1 _) ?_;intro bs rb;have hsh:GG (toP v)=Hq:=by unfold GG;rw[qhg v h1,Eo];exact decide_eq_true h2
        have heq:=keq_at (A:=A) ra rb hsh hsh hu2;rw[(qpv v v h1 h1).mpr rfl] at heq;exact KeqHits.hit (e:=Hq) (b:=Hq) hw' heq (ih l2 q (by simpa using e1) r2 (λu hu=>hd u (Ak _ hu)) λi y u h3 h4=>hs (i+1) y u (by simpa using h3) (by simpa using h4))
  refine keq_eq (knd:=Hx W.prog W.w) (qdq R hg) (qdq R hg2) hm hm' hu (λ_=>hits ks vs us hlv hr hd hsub) ?_;have:((ks.zip us).length==(ks'.zip us').length&&Hq)=Hq:=by simp[CR,<- hl1,<- hl2,hl]
  rw[this];exact hQ _ g s R Evo.refl rfl
end
end
section
structure LamIn (C:Cx) (c P:Ht):Prop where
  cd:C.cd=.ref c
  hd:GH C.W.s1.heap c P
  nc:¬C.W.tab c
  tab:C.W.tab P
  blt:C.W.s1.heap.BuiltinsAt C.W.mg P
  bm:∀bm,C.W.mg "__builtins__"=ER (.ref bm)->¬C.W.tab bm
theorem qhe {a b:Int}{c v:Hw}:∀{l:List Hw},TriplesOk l->E5 pos (l++[C7 a,C7 b,c])=ER v->E5 pos l=ER v\/v=c:=by
  intro l h
  fun_induction TriplesOk l with
  | case1=>
    intro q;simp only[Dh,C7,E5] at q;split at q
    . obtain rfl:=Sj q;exact .inr rfl
    . cases q
  | case2 x t y u z rest ih=>
    intro q;simp only[EZ,E5] at q ⊢;split at q
    . rename_i hc;rw[if_pos hc];obtain rfl:=Sj q;exact .inl rfl
    . rename_i hc;rw[if_neg hc];exact ih h q
  | case3=>exact absurd h (by simp)
section
theorem Rep.tabUp {s:Ab}(R:Rep W fr g σ s)(tk:Nat)(hP:W.tab P)(hk:∀b o,s.heap.get? b=ER o->b≠P->h'.get? b=ER o)(hT:qqw W g h' P):
    Rep W fr g σ { s with heap:=h',toks:=tk }/\Evo W noX noY g s.heap g h':=by
  have hPo:=R.tabO P hP;have hne:∀{b},g b≠.other->b≠P:=λq e=>q (e ▸ hPo)
  have hkt:∀{b o},s.heap.get? b=ER o->∃o',h'.get? b=ER o':=λ{b o} ho=>by
    by_cases hb:b=P
    . subst hb;refine qa4 (hT) ?_;intro more h1 _;exact ⟨_,h1⟩
    . exact ⟨o,hk b o ho hb⟩
  have e:Evo W noX noY g s.heap g h':=⟨λb o ho _ hq=>.of (hk b o ho (by
      rcases hq with q | ⟨_,q⟩
      . exact hne (by rw[q];exact nofun)
      . exact λe=>q (e ▸ hP))),λb o n ho hq _=>hk b o ho (hne (by rcases hq with q | q <;> rw[q] <;> exact nofun)),λ_ q _=>q,λ_ _ q=>q,λ_ _ q=>q,λ_ _ _ q _=>.inl q,λb o _ ho=>hkt ho⟩
  refine ⟨⟨λb o ho ht=>hk b o (R.base b o ho ht) (λq=>ht (q ▸ hP)),R.baseO,R.tabO,λb ht=>?_,λb hb=>?_,λn ao ho=>?_,R.uniq,R.pl,R.bnd,λen he=>?_,R.gens,R.os⟩,e⟩
  . by_cases hb:b=P
    . subst hb;exact hT
    . refine qaj (R.tabs b ht) ?_;intro more h2 h3 h4;exact ⟨more,hk b _ h2 hb,h3,λpos v q=>(h4 pos v q).mono e XOk.no⟩
  . refine Ap (R.low b hb) ?_;intro o ho;exact ⟨o,hk b o ho (hne hb)⟩
  . refine qa4 (R.locs n ao ho) ?_;intro b hg hr;exact ⟨b,hg,hr.mono e XOk.no (λo q=>hk b o q (hne (by rw[hg];exact nofun))) (λd hd o q=>hk d o q (hne (by rw[hd];exact nofun))) ao (R.pl n ao ho)⟩
  . refine qaf (R.frs en he) ?_;intro f o es ep h1 h2 h3 h4 h5;refine ⟨f,o,es,ep,h1,hk f o h2 (λq=>?_),h3,h4,h5⟩;subst q;refine qa4 (R.tabs f hP) ?_;intro more h5 _;rw[h2] at h5;obtain rfl:=Sj h5;cases h3
open Classical in
noncomputable def capt (g:Ht->Own) (K:Ht->Prop):Ht->Own:=λa=>if K a then .fz else g a
theorem qhf {K:Ht->Prop}(h:K a):capt g K a=.fz:=if_pos h
theorem qbz {K:Ht->Prop}(h:¬K a):capt g K a=g a:=if_neg h
theorem Rep.capt {s:Ab}(R:Rep W fr g σ s){K:Ht->Prop}(hK:∀a,K a->W.s1.heap.get? a=Dt/\(g a=.other\/g a=.fz)/\∃v,s.heap.get? a=ER (qat v)):
    Rep W fr (capt g K) σ s/\Evo W noX noY g s.heap (capt g K) s.heap:=by
  have hl:∀a n,(g a=.loc n\/g a=.aux n)->¬K a:=λa n hq hk=>by
    rcases (hK a hk).2.1 with q | q <;> rcases hq with r | r <;> (rw[q] at r;cases r)
  have hinv:∀a o,Mine.capt g K a=o->o≠.fz->g a=o:=λa o q hne=>by
    by_cases hk:K a
    . rw[qhf hk] at q;exact absurd q.symm hne
    . rw[qbz hk] at q;exact q
  have hbase:∀{a o},W.s1.heap.get? a=ER o->¬K a:=λho hk=>by rw[(hK _ hk).1] at ho;cases ho
  have e:Evo W noX noY g s.heap (Mine.capt g K) s.heap:=⟨λ_ _ h _ _=>.of h,λ_ _ _ h _ _=>h,λa q _=>by
      by_cases hk:K a
      . exact qhf hk
      . rw[qbz hk];exact q,λa n q=>by rw[qbz (hl a n (.inl q))];exact q,λa n q=>by rw[qbz (hl a n (.inr q))];exact q,λa o ho q _=>by
      by_cases hk:K a
      . exact .inr ⟨qhf hk,(hK a hk).2.2⟩
      . exact .inl (by rw[qbz hk];exact q),λa o _ ho=>⟨o,ho⟩⟩
  refine ⟨⟨R.base,λa o ho=>by rw[qbz (hbase ho)];exact R.baseO a o ho,λa ht=>by rw[qbz (hbase (W.tabEx a ht))];exact R.tabO a ht,λa ht=>?_,λa ha=>?_,λn ao ho=>?_,
    λa b n ha hb=>R.uniq a b n (hinv a _ ha nofun) (hinv b _ hb nofun),R.pl,λa n q=>R.bnd a n (q.imp (λq=>hinv a _ q nofun) λq=>hinv a _ q nofun),λen he=>?_,R.gens,R.os⟩,e⟩
  . refine qaj (R.tabs a ht) ?_;intro more h2 h3 h4;exact ⟨more,h2,h3,λpos v q=>(h4 pos v q).mono e XOk.no⟩
  . by_cases hk:K a
    . refine Ap ((hK a hk).2.2) ?_;intro v hv;exact ⟨_,hv⟩
    . rw[qbz hk] at ha;exact R.low a ha
  . refine qa4 (R.locs n ao ho) ?_;intro a qa hr;exact ⟨a,e.loc a n qa,hr.mono e XOk.no (λ_ q=>q) (λ_ _ _ q=>q) ao (R.pl n ao ho)⟩
  . refine qaf (R.frs en he) ?_;intro f o es ep h1 h2 h3 h4 h5;refine ⟨f,o,es,ep,h1,h2,h3,?_,h5⟩;rw[qbz λhk=>?_]
    . exact h4
    . refine Ap ((hK f hk).2.2) ?_;intro v hv;rw[h2] at hv;obtain rfl:=Sj hv;cases h3
end
section
noncomputable abbrev qpc (name qual:Hv) (params:E4) (body:Expr) (scope:Scope) (cl:List (Hv×Ht)) (pm cdv ct:Hw):BV:=
  { name,qualname:=qual,params,body:=.expr body,scope,globals:=Br,closure:=cl,defaults:=.none,kwdefaults:=.none,doc:=.none,pyModule:=pm,annotations:=Dt,code:=cdv,closureTuple:=ct,builtins:=Bt }
theorem qrr {name qual:Hv}{params:E4}{body:FuncBody}{fl:Nat}:makeFunction name qual params body scope env [] [] [] pos fl=makeTail name qual params body scope env .none .none Dt pos fl:=by
  rw[makeFunction_eq];simp only[List.zip_nil_right,List.filterMap_nil,List.isEmpty_nil,if_true,pure_bind]
theorem GH.at {c:Ht}(x:GH h c P)(e:h'.get? c=h.get? c):GH h' c P:=by unfold GH;rw[e];exact x
section
variable {s:Ab} {c:Ht}
theorem LamIn.hdAt (L:LamIn C c P)(R:Rep C.W fr g σ s):GH s.heap c P:=by
  refine Ap (L.hd.tab (C.W.tabEx P L.tab)).1 ?_;intro o h;refine Ap h ?_;intro vs h;exact GH.at L.hd ((R.base c o h.1 L.nc).trans h.1.symm)
theorem LamIn.bltAt (L:LamIn C c P)(R:Rep C.W fr g σ s):s.heap.BuiltinsAt C.W.mg P:=by
  refine Ap L.blt ?_;intro bm h;refine Ap h ?_;intro ob h;exact ⟨bm,ob,h.1,h.2.1,h.2.2.1,h.2.2.2.1,R.base bm ob h.2.2.2.2.1 (L.bm bm h.1),h.2.2.2.2.2⟩
theorem qkr {qual:Hv}{more:Array Hw}(hT:C.W.tab P)(ht:TriplesOk more.toList)(hcodes:∀pos v,E5 pos more.toList=ER v->CodeOk C.W g s.heap v)(R:Rep C.W fr g σ s)(tk:Nat)(c':Ht)(hx:Ga P s.heap h')(hge:s.heap.objs.size<=c')(hrec:h'.CodeRec (.ref c') qual)(htab:h'.get? P=ER (EP (more++#[C7 p.line,C7 p.col,.ref c'])))(htc:∃P',s.heap.objs.size<=P'/\h'.IsCode c' P' #[]/\h'.TableAt c' P' #[]):
    Rep C.W fr g σ { s with heap:=h',toks:=tk }/\Evo C.W noX noY g s.heap g h'/\CodeOk C.W g h' (.ref c'):=by
  have hnone:s.heap.get? c'=Dt:=BW hge;have hok:CodeOk C.W g h' (.ref c'):=by
    obtain ⟨c2,o,vs,t,e1,e2,e3,e4⟩:=hrec;obtain rfl:c'=c2:=Value.ref.inj e1;refine Ap htc ?_;intro P' q;refine qa2 q.2.2.1 ?_;intro o2 vs2 f1 f2 f3;obtain rfl:=Sj (e2.symm.trans f1);exact ⟨c',o,vs,qual,t,rfl,R.newO hnone,Iax (R.new1 hnone),e2,f2,e3,e4⟩
  have hO:=R.tabO _ hT;have hk:∀b o,s.heap.get? b=ER o->b≠P->h'.get? b=ER o:=λb o ho hb=>hx b o hb ho
  have htl:(more++#[C7 p.line,C7 p.col,Value.ref c']).toList=more.toList++[C7 p.line,C7 p.col,.ref c']:=by simp
  have e0:Evo C.W noX noY g s.heap g h':=⟨λb o ho _ hq=>.of (hx b o (λq=>by
      subst q;rcases hq with q | ⟨_,q⟩
      . exact nomatch hO.symm.trans q
      . exact q hT) ho),λb o n ho hq _=>hx b o (λq=>by subst q;rw[hO] at hq;exact hq.elim (λq=>nomatch q) λq=>nomatch q) ho,λ_ q _=>q,λ_ _ q=>q,λ_ _ q=>q,λ_ _ _ q _=>.inl q,λb o _ ho=>by
    by_cases hb:b=P
    . subst hb;exact ⟨_,htab⟩
    . exact ⟨o,hx b o hb ho⟩⟩
  obtain ⟨R',e'⟩:=R.tabUp (h':=h') tk hT hk ⟨_,htab,by
    rw[htl];exact TriplesOk_snoc _ _ _ _ ht,λpos v q=>by
    rw[htl] at q;rcases qhe ht q with q | q
    . exact (hcodes pos v q).mono e0 XOk.no
    . rw[q];exact hok⟩
  exact ⟨R',e',hok⟩
end
theorem qkq {c:Ht}{params:E4}{body:Expr}(L:LamIn C c P){s:Ab}(rm:Room k fr A)(R:Rep C.W fr g σ s)(F:Fra C env m g s.heap){clos:List (Hv×Ht)}(hcl:closureFor scope env=pure clos)(hdef:defaultsOf params env=([],[]))(hQ:∀(cv ctv:Hw) (qual:Hv) (pm:Hw) (h':Heap) (tk:Nat),Rep C.W fr g σ { s with heap:=h',toks:=tk }->Evo C.W noX noY g s.heap g h'->CodeOk C.W g h' cv->(∀b o,s.heap.get? b=ER o->b≠P->h'.get? b=ER o) ->
      Q (.ref h'.objs.size) { s with heap:=h'.push { cls:=.type "function",data:=.func (qpc "<lambda>" qual params body scope clos pm cv ctv) },toks:=tk }):
    Hs (Hu C.W.prog C.W.w) A (eval (.Lambda params body scope p) env) Q E s:=by
  refine qaj (R.tabs P L.tab) ?_;intro more hP ht hcodes;have hcode:env.code=.ref c:=F.code.trans L.cd;have hCd:=L.hdAt R;refine kla_eval (params:=params) (body:=body) (scope:=scope) (pos:=p) hdef ?_;generalize env.qual++("<lambda>":Hv)=qual;cases hf:E5 p more.toList with
  | some cv=>
    refine kla_makeFunctionHit hcl F.glob R.gNs hcode hCd hP ht hf (L.bltAt R) λctv h' tk hk _=>?_
    obtain ⟨R',e'⟩:=R.keeps tk hk;exact hQ cv ctv qual _ h' tk R' e' ((hcodes p cv hf).mono e' XOk.no) λb o h _=>hk b o h
  | none=>
    have hgP:Br≠P:=λq=>C.W.gNT (q ▸ L.tab)
    refine Ap (L.bltAt R) ?_;intro bm h;refine Ap h ?_;intro ob hb;rw[qrr];unfold makeTail;rw[hcl,F.glob];refine Aa (Ad ?_);cases clos with
    | nil=>
      refine Aa (Ad ?_);refine Aa (wpAny_functionCodeX hcode (hCd.code hP ht) (hCd.tab hP) hf λc' h' tk hx hge _ _ hrec htb htc=>?_);have hg':=R.gNs.extBut hx hgP;refine Aa (wpAny_builtinsFor hg' hb.1 hb.2.1 (hx _ _ hb.2.2.2.1 hb.2.2.2.2.1) hb.2.2.2.2.2.1 hb.2.2.2.2.2.2.1 hb.2.2.2.2.2.2.2 ?_);refine Aa (G1 hg' ?_);obtain ⟨R',e',ho⟩:=qkr L.tab ht hcodes R tk c' hx hge hrec htb.2 htc;exact Aa (Ad (Bx (hQ _ .none qual _ h' tk R' e' ho λb o h1 h2=>hx b o h2 h1) (by size_fits)))
    | cons q r=>
      refine Aa (wpAny_newTextTuple ?_);have hup:∀{oo:Obj} b o,s.heap.get? b=ER o->(s.heap.push oo).get? b=ER o:=λb o e=>Am _ e
      refine Aa (wpAny_functionCodeX hcode ((hCd.keeps hup).code (hup _ _ hP) ht) ((hCd.keeps hup).tab (hup _ _ hP)) hf λc' h' tk hx hge _ _ hrec htb htc=>?_);have hg':=(R.gNs.push _).extBut hx hgP;have hx':Ga P s.heap h':=λb o hb' e=>hx b o hb' (hup b o e)
      have hge1:∀{oo:Obj},s.heap.objs.size<=(s.heap.push oo).objs.size:=λ{oo}=>Af (Dn _) (Bn (D8 _ _).symm)
      refine Aa (wpAny_builtinsFor hg' hb.1 hb.2.1 (hx' _ _ hb.2.2.2.1 hb.2.2.2.2.1) hb.2.2.2.2.2.1 hb.2.2.2.2.2.2.1 hb.2.2.2.2.2.2.2 ?_);refine Aa (G1 hg' ?_);obtain ⟨R',e',ho⟩:=qkr L.tab ht hcodes R tk c' hx' (Af hge1 hge) hrec htb.2 (htc.imp λ_ q=>⟨Af hge1 q.1,q.2⟩);exact Aa (Ad (Bx (hQ _ _ qual _ h' tk R' e' ho λb o h1 h2=>hx' b o h2 h1) (by size_fits)))
end
end
section
structure LamCap (C:Cx) (m:List (Option AV)) (names:List (Hv×AA)) (ns:List Hv) (caps:List AV):Prop where
  free:∀(i:Nat) (x:Hv),names[i]?=ER (x,.free)->∃(j:Nat) (kd:AA),C.nm[j]?=ER (x,kd)/\kcl kd=1
  capt:∀(i:Nat) (x:Hv),ns[i]?=ER x->∃(l:Nat) (j:Nat) (kd:AA) (av:AV),names[l]?=ER (x,.free)/\C.nm[j]?=ER (x,kd)/\kcl kd=1/\m[j]?=ER (ER av)/\caps[i]?=ER av
  eqn:ns.length=caps.length
section
theorem qnj {cl:List (Hv×Ht)}(F:Fra C env m g h)(hcl:∀(i:Nat) (x:Hv),names[i]?=ER (x,.free)->cl.lookup x=env.cells.lookup x):
    ∀{ns:List Hv} {caps:List AV},(∀(i:Nat) (x:Hv),ns[i]?=ER x->∃(l:Nat) (j:Nat) (kd:AA) (av:AV),names[l]?=ER (x,.free)/\C.nm[j]?=ER (x,kd)/\kcl kd=1/\m[j]?=ER (ER av)/\caps[i]?=ER av)->ns.length=caps.length ->
    ∃vs,RVs C.W g h caps vs/\∀(i:Nat) (x:Hv),ns[i]?=ER x->∃(c:Ht) (u:Hw),cl.lookup x=ER c/\env.cells.lookup x=ER c/\vs[i]?=ER u/\h.get? c=ER (qat (ER u))/\C.W.s1.heap.get? c=Dt/\(g c=.other\/g c=.fz):=by
  intro ns;induction ns with
  | nil=>intro caps _ hl;cases caps with | nil=>exact ⟨[],rfl,λi x q=>by simp at q⟩ | cons _ _=>simp at hl
  | cons x ns ih=>
    intro caps hc hl;cases caps with
    | nil=>simp at hl
    | cons a caps=>
      refine qa4 (ih (λi y q=>by refine qaf (hc (i+1) y (by simpa using q)) ?_;intro l j kd av h1 h2 h3 h4 h5;exact ⟨l,j,kd,av,h1,h2,h3,h4,by simpa using h5⟩) (by simpa using hl)) ?_;intro vs r hv;refine qaf (hc 0 x rfl) ?_;intro l j kd av h1 h2 h3 h4 h5;simp at h5;subst h5;refine qan (F.cell j x kd h2 h3) ?_;intro c ov f1 f2 f3 f4 f5;refine qa4 (f5 a h4) ?_;intro u eq_3_1 ru;subst eq_3_1;refine ⟨u::vs,⟨u,vs,rfl,ru,r⟩,λi y q=>?_⟩;cases i with
      | zero=>simp at q;subst q;exact ⟨c,u,by rw[hcl l x h1];exact f1,f1,rfl,f3,f2,f4⟩
      | succ i=>refine qaz (hv i y (by simpa using q)) ?_;intro c' u' q1 q2 q3 q4;exact ⟨c',u',q1,q2,by simpa using q3,q4⟩
theorem Ied {c:Ht}{params:E4}{body:Expr}{ns:List Hv}{caps:List AV}(L:LamIn C c P)(hcap:LamCap C m scope.names ns caps)(hdef:autoParam (∀env,defaultsOf params env=([],[])) ap0._auto_1):
    Ev C k fr m σ (.Lambda params body scope p) (.clo ⟨params,body,scope⟩ ns caps) σ:=λA env g s rm R F Q E hQ=>by
  obtain ⟨cl,hcl,hlk⟩:=qd3 (scope:=scope) (env:=env) λi x hx=>by
    refine qcs (hcap.free i x hx) ?_;intro j kd h1 h2;refine qcs (F.cell j x kd h1 h2) ?_;intro c ov h3 _;exact ⟨c,h3⟩
  refine qkq L rm R F hcl (hdef env) λcv ctv qual pm h' tk R1 e1a ho hk=>?_
  have F1:=F.up e1a;refine qa4 (qnj F1 hlk hcap.capt hcap.eqn) ?_;intro vs hr hv;obtain ⟨R2,e2a⟩:=R1.capt (K:=λa=>∃(i:Nat) (x:Hv),ns[i]?=ER x/\env.cells.lookup x=ER a) (λa ⟨i,x,h1,h2⟩=>by
    refine qdf (hv i x h1) ?_;intro c u q1 q2 q3 q4 q5 q6;rw[q2] at h2;obtain rfl:=Sj h2;exact ⟨q5,q6,_,q4⟩)
  refine AC ?_ (R2.newFz { cls:=.type "function",data:=.func (qpc "<lambda>" qual params body scope cl pm cv ctv) });intro R3 e3a;have hge:∀{b o},h'.get? b=ER o->b≠h'.objs.size:=λho=>qgj ho
  refine hQ _ _ _ R3 (e1a.no.trans (e2a.no.trans e3a.no)) ⟨_,qpc "<lambda>" qual params body scope cl pm cv ctv,vs,rfl,qa3,⟨Al _ rfl,rfl,rfl,rfl,rfl,rfl,rfl,rfl,(ho.mono e2a XOk.no).mono e3a XOk.no⟩,(hr.up e2a).up e3a,λi x hx=>?_⟩;refine qdf (hv i x hx) ?_;intro c u q1 q2 q3 q4 q5 q6;exact ⟨c,u,q1,by rw[qa5 (hge q4)];exact qhf ⟨i,x,hx,q2⟩,q3,Am _ q4,q5⟩
theorem Ic5 {c:Ht}{params:E4}{body:Expr}(L:LamIn C c P)(hfree:∀(i:Nat) (x:Hv),scope.names[i]?≠ER (x,.free))(hdef:autoParam (∀env,defaultsOf params env=([],[])) ap0._auto_1):
    Ev C k fr m σ (.Lambda params body scope p) (.loc σ.length) (σ++[.fn0]):=λA env g s rm R F Q E hQ=>by
  refine qa4 (qd3 (scope:=scope) (env:=env) λi x hx=>absurd hx (hfree i x)) ?_;intro cl hcl hlk;refine qkq L rm R F hcl (hdef env) λcv ctv qual pm h' tk R1 e1a ho hk=>?_
  refine AC ?_ (R1.pushLoc { cls:=.type "function",data:=.func (qpc "<lambda>" qual params body scope cl pm cv ctv) } (ao:=.fn0) rfl ⟨_,Al _ rfl⟩);intro R3 e3a;exact hQ _ _ _ R3 (e1a.no.trans e3a.no) ⟨_,rfl,qa3⟩
theorem qq1 {s:Ab}{args:Args}{fd:BV}{body:Expr}(hroom:A.depth<GR)(ho:s.heap.get? a=ER o)(hd':o.data=.func fd)(hco:fd.scope.isCoroutine=Hr)(hgen:fd.scope.isGenerator=Hr)(hbody:fd.body=.expr body){q:Hv}(hcd:s.heap.CodeRec fd.code q)(h:Hs (Hu prog w) A.in1 (DF fd args) (λbinds s1a=>
      Hs (Hu prog w) A.in1 (GZ fd.scope fd.globals fd.closure binds (q ++ ".<locals>.") (ER a) fd.code Dt fd.builtins)
        (λenv s2=>s2.heap.NoLimit/\Cn (Hu prog w) A (.expr body env) R s2) (λe s'=>R (.error e) s') s1a) (λe s'=>R (.error e) s') s):
    Cn (Hu prog w) A (.call (.ref a) args) R s:=by
  refine DO ?_;show Hs _ A.in1 (callAny (.ref a) args) _ _ s;refine Aa (EC ho ?_);refine qcr (hcd) ?_;intro c oc vs tq hc hoc hdc hq;rw[hd'];show Hs _ _ (callFunction a fd args) _ _ _
  delta callFunction
  rw[hbody,hco,hgen,hc];rw[hc] at h;refine Aa (m:=field (.ref c) 1) (Cq hoc hdc hq (Aa (Ad ?_)));exact Aa (AD h (λbinds s1a h1a=>Aa (AD h1a (λenv s2 h2a=>Aa (wpAny_enterFrame h2a.1 hroom
    (Ad (Hb rfl h2a.2)))) λ_ _ h'=>h')) λ_ _ h'=>h')
structure CloIn (l:Lam) (ns:List Hv) (caps:List AV) (m0:List (Option AV)):Prop where
  kind:l.scope.kind=.function
  co:l.scope.isCoroutine=Hr
  gen:l.scope.isGenerator=Hr
  nd:∀(i j:Nat) (x:Hv) (k k':AA),l.scope.names[i]?=ER (x,k)->l.scope.names[j]?=ER (x,k')->i=j
  len:m0.length=l.scope.names.length
  free:∀(i:Nat) (x:Hv),l.scope.names[i]?=ER (x,.free)->∃j:Nat,ns[j]?=ER x/\∀av:AV,m0[i]?=ER (ER av)->caps[j]?=ER av
  rest:∀(i:Nat) (x:Hv) (k:AA),l.scope.names[i]?=ER (x,k)->k≠.free->∀av,m0[i]?≠ER (ER av)
  pl:(∀(i:Nat) (x:Hv),l.scope.names[i]?≠ER (x,.cell))\/∀(i:Nat) (av:AV),m0[i]?=ER (ER av)->plain av=Hq
end
end
section
theorem Rep.congr {s s':Ab}(R:Rep W fr g σ s)(h1:s'.heap=s.heap)(h2:s'.gens=s.gens)(h3:s'.os=s.os):Rep W fr g σ s':=by
  obtain ⟨h,gs,d,tk,os⟩:=s;obtain ⟨h',gs',d',tk',os'⟩:=s';subst h1;subst h2;subst h3;exact ⟨R.base,R.baseO,R.tabO,R.tabs,R.low,R.locs,R.uniq,R.pl,R.bnd,R.frs,R.gens,R.os⟩
structure Fly (W:Wd) (fr:List HA) (g:Ht->Own) (σ:List AObj) (h0a:Heap) (made:Bool) (e:Ht) (X:String) (vs:List Hw) (s:Ab):Prop where
  it:∃(FR:List HA) (s0:Ab) (B:Heap),s0.heap=h0a/\s.gens=s0.gens/\s.os=s0.os/\(∀e∈fr,e∈FR)/\Rep W FR g σ s0 /\
    (∀b o,h0a.get? b=ER o->(∀en∈FR,en.frame≠ER b)->B.get? b=ER o)/\h0a.UpToSlots s.heap/\B.StaysIn s.heap /\
    ((made=Hq/\B.StaysIn h0a/\h0a.FunFrames B fr/\G4 h0a s.heap e (.type X) vs) \/
      (made=Hr/\∃t,B.get? t=Dt/\s.heap.TupAt t vs/\(Heap.FlyingW B fr e (.type X) (.ref t) s.heap\/∃L env rest,fr=env::rest/\env.frame=ER L/\Hi B fr e (.type X) (.ref t) L s.heap)))
section
variable {h0a:Heap} {mk:Bool} {e:Ht} {X:String} {vs:List Hw} {s:Ab}
theorem Fly.rep (y:Fly W fr g σ h0a mk e X vs s):Rep W fr g σ s/\Evo W noX noY g h0a g s.heap:=by
  refine qbj (y.it) ?_;intro FR s0 B eq_2_3 hg ho hsub R hc hu hB _;subst eq_2_3;obtain ⟨R',e'⟩:=R.slots (h':=s.heap) s.toks (λa=>∃en∈FR,en.frame=ER a) (λa h=>h) (λa o q hn=>hB a o (hc a o q λen hen hf=>hn ⟨en,hen,hf⟩)) (λa o ⟨en,hen,hf⟩ q=>by
    refine qcr (R.frs en hen) ?_;intro f o' es ep h1 h2 h3 _;rw[hf] at h1;obtain rfl:=Sj h1;rw[q] at h2;obtain rfl:=Sj h2;exact hu a o q λvs hd=>by rw[h3] at hd;cases hd)
  exact ⟨(R'.fewer hsub).congr rfl hg ho,e'⟩
theorem qf4 {B:Heap}:∀{l:List HA},(∀en∈l,en.scope.kind≠.module/\∃f o,en.frame=ER f/\B.get? f=Dt/\h.get? f=ER o/\∀vs,o.data≠.fields vs)->h.FunFrames B l
  | [],_=>trivial
  | en::r,H=>by
    refine qp3 (H en (.head _)) ?_;intro h1 f o h2 h3 h4 h5;exact ⟨h1,⟨f,o,h2,h3,h4,h5⟩,qf4 λe he=>H e (.tail _ he)⟩
theorem Id9 (R:Rep W fr g σ s){s':Ab}(hx:G4 s.heap s'.heap e (.type X) vs)(hg:s'.gens=s.gens)(ho:s'.os=s.os):Fly W fr g σ s.heap Hq e X vs s':=by
  have st:(hideAll s.heap (fr.filterMap (·.frame))).StaysIn s.heap:=λb o q=>of_hideAll _ q
  refine ⟨fr,s,hideAll s.heap (fr.filterMap (·.frame)),rfl,hg,ho,λ_ h=>h,R,λb o q hn=>?_,Heap.UpToSlots.of_keeps hx.keeps,λb o q=>hx.keeps b o (st b o q),.inl ⟨rfl,st,?_,hx⟩⟩
  . refine hideAll_get _ q λhm=>?_
    refine qa4 (List.mem_filterMap.mp hm) ?_;intro en hen hf;exact hn en hen hf
  . refine qf4 λen hen=>?_
    refine qi0 (R.frs en hen) ?_;intro f o es ep h1 h2 h3 h4 h5 h6 h7;exact ⟨h7,f,o,h1,hideAll_none _ (List.mem_filterMap.mpr ⟨en,hen,h1⟩),h2,λvs q=>by rw[h3] at q;cases q⟩
variable {Q:Unit->Ab->Prop}
theorem Fly.leave (hA:A.frames=ER (env::fr))(y:Fly W (env::fr) g σ h0a mk e X vs s)(hQ:∀s',Fly W fr g σ h0a Hr e X vs s'->Q () s'):Hs M A (leaving env (.ref e)) Q E s:=by
  refine qbj (y.it) ?_;intro FR s0 B eq_7_3 hg ho hsub R hc hu hB hk;subst eq_7_3;have hsub':∀e∈fr,e∈FR:=λe he=>hsub e (.tail _ he)
  rcases hk with ⟨_,hB0,hF,hx⟩ | ⟨_,t,ht,htup,hf | ⟨L,env',rest,he,hfr,hh⟩⟩
  . refine qgb (id hF) ?_;intro _ ne_8_1 _;refine qcs ne_8_1 ?_;intro L _ hf _;refine wpAny_leaves_madeW hA hf hB0 hF hx λh' t f1 f2 f3 f4=>?_
    exact hQ _ ⟨FR,s0,B,rfl,hg,ho,hsub',R,hc,hu.trans f4,f1.1,.inr ⟨rfl,t,f3,f2,.inl f1⟩⟩
  . refine qgb (id hf.2.2.1) ?_;intro _ ne_9_1 _;refine qcs ne_9_1 ?_;intro L _ hf' _;refine wpAny_leaves_onW hA hf' hf λh' f1 f2=>?_
    exact hQ _ ⟨FR,s0,B,rfl,hg,ho,hsub',R,hc,hu.trans f2,f1.1,.inr ⟨rfl,t,ht,htup.of_slots f2,.inl f1⟩⟩
  . cases he
    unfold leaving;refine Aa (wpAny_noteFrame_againW hfr hh.2.2.2 ?_);refine wpAny_landsW hh λh' hfl f2=>?_
    refine qrk (hfl) ?_;intro k1 k2 ne_10_2 k4;refine qgb ne_10_2 ?_;intro _ _ k3;exact hQ _ ⟨FR,s0,B,rfl,hg,ho,hsub',R,hc,hu.trans f2,k1,.inr ⟨rfl,t,ht,htup.of_slots f2,.inl ⟨k1,k2,k3,k4⟩⟩⟩
def Hold (W:Wd) (env:HA) (fr:List HA) (g:Ht->Own) (σ:List AObj) (h0a:Heap) (e:Ht) (X:String) (vs:List Hw) (s:Ab):Prop:=
  ∃(FR:List HA) (s0:Ab) (B:Heap),s0.heap=h0a/\s.gens=s0.gens/\s.os=s0.os/\(∀e∈env::fr,e∈FR)/\Rep W FR g σ s0 /\
    (∀b o,h0a.get? b=ER o->(∀en∈FR,en.frame≠ER b)->B.get? b=ER o)/\h0a.UpToSlots s.heap /\
    ∃t L,B.get? t=Dt/\s.heap.TupAt t vs/\env.frame=ER L/\Hi B (env::fr) e (.type X) (.ref t) L s.heap
theorem Hold.fly (y:Hold W env fr g σ h0a e X vs s):Fly W (env::fr) g σ h0a Hr e X vs s:=by
  refine qbp (y) ?_;intro FR s0 B h1 h2 h3 h4 h5 h6 h7 t L h8 h9 h10 h11;exact ⟨FR,s0,B,h1,h2,h3,h4,h5,h6,h7,h11.1,.inr ⟨rfl,t,h8,h9,.inr ⟨L,env,fr,rfl,h10,h11⟩⟩⟩
theorem Fly.note (hA:A.frames=ER (env::fr))(y:Fly W (env::fr) g σ h0a Hr e X vs s)(hQ:∀s',Hold W env fr g σ h0a e X vs s'->Q () s'):Hs M A (Ha (.ref e) env) Q E s:=by
  refine qbj (y.it) ?_;intro FR s0 B eq_12_3 hg ho hsub R hc hu hB hk;subst eq_12_3;rcases hk with ⟨q,_⟩ | ⟨_,t,ht,htup,hf | ⟨L,env',rest,he,hfr,hh⟩⟩
  . cases q
  . refine qgb (id hf.2.2.1) ?_;intro _ ne_13_1 _;refine qcs ne_13_1 ?_;intro L _ hf' _;refine wpAny_looks_onW hA hf' hf λh' f1 f2=>?_
    exact hQ _ ⟨FR,s0,B,rfl,hg,ho,hsub,R,hc,hu.trans f2,t,L,ht,htup.of_slots f2,hf',f1⟩
  . cases he
    exact wpAny_noteFrame_againW hfr hh.2.2.2 (hQ _ ⟨FR,s0,B,rfl,hg,ho,hsub,R,hc,hu,t,L,ht,htup,hfr,hh⟩)
theorem qfn {base:Heap}{l:List HA}{L:Ht}{cls a0:Hw}(hh:Hi base l e cls a0 L s.heap)(hQ:∀h',Hi base l e cls a0 L h'->s.heap.UpToSlots h'->Q () { s with heap:=h' }):Hs M A (setFlight (.ref e) (ER L)) Q E s:=by
  refine qe9 (hh) ?_;intro hkb f2 hl oe vs T oT ts he hcls hd h1 hnT hTe hT hdT h3;have hsz3:3<ts.size:=(Cm.mp h3).1;have other:∀b,b≠T->(s.heap.update T (Obj.mapFields (·.setIfInBounds 3 ((ER L:Option Ht).elim Value.none λf=>C7 f)))).get? b=s.heap.get? b:=
    λb hb=>Heap.get?_update_other _ _ (B5 hb)
  have noRecord:∀b o,s.heap.get? b=ER o->(∀vs,o.data≠.fields vs)->b≠T:=λb o hb hnf q=>by
    rw[q,hT] at hb;injection hb with hb;subst hb;exact hnf ts hdT
  unfold setFlight;refine Aa (Cq he hd h1 ?_);rw[if_pos (show (Value.ref T != Value.none)=Hq from by rfl)];refine EU hT hdT hsz3 (hQ _ ⟨λb o hbo=>(other b λq=>by rw[q,hnT] at hbo;cases hbo).trans (hkb b o hbo),f2,
    hl.of_keeps λb o hb hnf=>⟨o,(other b (noRecord b o hb hnf)).trans hb,rfl⟩,?_⟩ λb o hb hnf=>⟨o.slots,(other b (noRecord b o hb hnf)).trans hb⟩)
  exact ⟨oe,vs,T,_,_,(other e (B5 hTe)).trans he,hcls,hd,h1,hnT,hTe,Be _ hT (DT (CC hdT _)),CC hdT _,by simp[hsz3]⟩
theorem Hold.back {E':Hw->Ab->Prop}(y:Hold W env fr g σ h0a e X vs s)(hE:∀s',Hold W env fr g σ h0a e X vs s'->E' (.ref e) s'):cameBackBy M A env E' (.ref e) s:=by
  refine qbp (y) ?_;intro FR s0 B h1 h2 h3 h4 h5 h6 h7 t L h8 h9 h10 h11;refine qgc (id h11) ?_;intro hkb f2 hl oe vs' T oT ts he hcls hd hv1 r;unfold cameBackBy;refine Aa (Cq he hd hv1 ?_);rw[if_neg (show ¬((Value.ref T==Value.none)=Hq) from by simp),h10];exact qfn h11 λh' k1 k2=>hE _ ⟨FR,s0,B,h1,h2,h3,h4,h5,h6,h7.trans k2,t,L,h8,h9.of_slots k2,h10,k1⟩
theorem Hold.land (y:Hold W env fr g σ h0a e X vs s)(hQ:∀s',Fly W (env::fr) g σ h0a Hr e X vs s'->Q () s'):Hs M A (setFlight (.ref e) Dt) Q E s:=by
  refine qbp (y) ?_;intro FR s0 B h1 h2 h3 h4 h5 h6 h7 t L h8 h9 h10 h11;exact wpAny_landsW h11 λh' k1 k2=>hQ _ ⟨FR,s0,B,h1,h2,h3,h4,h5,h6,h7.trans k2,k1.1,.inr ⟨rfl,t,h8,h9.of_slots k2,.inl k1⟩⟩
theorem Fly.again (y:Fly W fr g σ h0a Hr e X vs s)(hQ:∀s',Fly W fr g σ h0a Hr e X vs s'->Q () s'):Hs M A (setFlight (.ref e) Dt) Q E s:=by
  refine qbj (y.it) ?_;intro FR s0 B eq_18_3 hg ho hsub R hc hu hB hk;subst eq_18_3;rcases hk with ⟨q,_⟩ | ⟨_,t,ht,htup,hf | ⟨L,env',rest,he,hfr,hh⟩⟩
  . cases q
  . exact lands_againW hf λh' k1 k2=>hQ _ ⟨FR,s0,B,rfl,hg,ho,hsub,R,hc,hu.trans k2,k1.1,.inr ⟨rfl,t,ht,htup.of_slots k2,.inl k1⟩⟩
  . exact wpAny_landsW hh λh' k1 k2=>hQ _ ⟨FR,s0,B,rfl,hg,ho,hsub,R,hc,hu.trans k2,k1.1,.inr ⟨rfl,t,ht,htup.of_slots k2,.inl k1⟩⟩
end
end
section
def CallsR (W:Wd) (Y:Nat->Prop) (k:Nat) (fr:List HA) (σ:List AObj) (f:AV) (args:List AV) (kn:List Hv) (kv:List AV) (mk:Bool) (X:String) (P:List Hw->Prop) (z':List AObj):Prop:=
  ∀(A:BJ) (g:Ht->Own) (s:Ab) (vf:Hw) (vs ks:List Hw),Room k fr A->Rep W fr g σ s->RV W g s.heap f vf->RVs W g s.heap args vs->RVs W g s.heap kv ks->∀(Q:Hw->Ab->Prop) (E:Hw->Ab->Prop),
    (∀e g' h0a us s',P us->Evo W noX Y g s.heap g' h0a->Fly W fr g' z' h0a mk e X us s'->E (.ref e) s')->Hs (Hu W.prog W.w) A (call vf vs (kn.zip ks)) Q E s
def EvR (C:Cx) (k:Nat) (fr:List HA) (m:List (Option AV)) (σ:List AObj) (e:Expr) (mk:Bool) (X:String) (P:List Hw->Prop) (z':List AObj):Prop:=
  ∀(A:BJ) (env:HA) (g:Ht->Own) (s:Ab),Room k fr A->Rep C.W fr g σ s->Fra C env m g s.heap->∀(Q:Hw->Ab->Prop) (E:Hw->Ab->Prop),
    (∀e g' h0a us s',P us->Evo C.W noX C.Y g s.heap g' h0a->Fly C.W fr g' z' h0a mk e X us s'->E (.ref e) s')->Hs (Hu C.W.prog C.W.w) A (eval e env) Q E s
def ExR (C:Cx) (k:Nat) (fr:List HA) (m:List (Option AV)) (σ:List AObj) (st:Stmt) (mk:Bool) (X:String) (P:List Hw->Prop) (m':List (Option AV)) (z':List AObj):Prop:=
  ∀(A:BJ) (env:HA) (outer:List HA) (g:Ht->Own) (s:Ab),fr=env::outer->Room k fr A->Rep C.W fr g σ s->Fra C env m g s.heap->∀(Q:Flow->Ab->Prop) (E:Hw->Ab->Prop),
    (∀e g' h0a us s',P us->Evo C.W (FX C.nm env) C.Y g s.heap g' h0a->Fra C env m' g' h0a->Fly C.W fr g' z' h0a mk e X us s'->E (.ref e) s')->Hs (Hu C.W.prog C.W.w) A (exec st env) Q E s
def ExsR (C:Cx) (k:Nat) (fr:List HA) (m:List (Option AV)) (σ:List AObj) (sts:List Stmt) (mk:Bool) (X:String) (P:List Hw->Prop) (m':List (Option AV)) (z':List AObj):Prop:=
  ∀(A:BJ) (env:HA) (outer:List HA) (g:Ht->Own) (s:Ab),fr=env::outer->Room k fr A->Rep C.W fr g σ s->Fra C env m g s.heap->∀(Q:Flow->Ab->Prop) (E:Hw->Ab->Prop),
    (∀e g' h0a us s',P us->Evo C.W (FX C.nm env) C.Y g s.heap g' h0a->Fra C env m' g' h0a->Fly C.W fr g' z' h0a mk e X us s'->E (.ref e) s')->Hs (Hu C.W.prog C.W.w) A (execs sts env) Q E s
section
variable {mk:Bool} {X:String} {P:List Hw->Prop}
theorem ExsR.head {r:List Stmt}(h:ExR C k fr m σ st mk X P m' z'):ExsR C k fr m σ (st::r) mk X P m' z':=λA env outer g s hfr rm R F Q E hE=>
  CA (h A env outer g s hfr rm R F _ _ hE)
theorem Ich {a b:List Stmt}{c:Bool}(ht:Tr C k fr m σ t c z1)(ha:c=Hq->ExsR C k fr m z1 a mk X P m' z')(hb:c=Hr->ExsR C k fr m z1 b mk X P m' z'):ExR C k fr m σ (.If t a b p) mk X P m' z':=λA env outer g s hfr rm R F Q E hE=>by
  refine wpAny_If (ht A env g s rm R F _ _ λg1 s1a R1 e1a=>?_);cases c with
  | true=>exact ha rfl A env outer g1 s1a hfr rm R1 (F.up e1a) Q E λe g' h0a us s' hp e2a F2 y=>hE e g' h0a us s' hp (e1a.toX.trans e2a) F2 y
  | false=>exact hb rfl A env outer g1 s1a hfr rm R1 (F.up e1a) Q E λe g' h0a us s' hp e2a F2 y=>hE e g' h0a us s' hp (e1a.toX.trans e2a) F2 y
theorem Ice {np cp sp:Pos}{msg:Hv}(hx:C.nm[i]?=ER (x,.globalImplicit))(hg:C.W.mg x=Dt)(hv:C.W.mb x=ER (.type "ValueError"))(hd:autoParam ((x==("__debug__":Hv))=Hr) ap1._auto_1):
    ExR C k fr m σ (.Raise (ER (.Call (.Name x np) [.Constant (.str msg) n sp] [] cp)) Dt p) Hq "ValueError" (λus=>∃t,us=[.str msg t]) m σ:=λA env outer g s hfr rm R F Q E hE=>by
  refine wpAny_Raise_call PySem.F.excCall_ValueError PySem.F.excRaise_ValueError rm.handled rfl ?_;refine (Idx (k:=k) (fr:=fr) (m:=m) (σ:=σ) (p:=np) hx hg hv hd) A env g s rm R F _ _ λv' g1 s1a R1 e1a rv=>⟨rv,?_⟩
  refine PySem.Calls.evalArgs_plain (Calls.spliced_cons ((Ia7 (C:=C) (k:=k) (fr:=fr) (m:=m) (σ:=σ) (n:=n) (p:=sp)) A env g1 s1a rm R1 (F.up e1a) _ _ λw g2 s2 R2 e2a rw'=>Calls.spliced_nil ?_));obtain ⟨t,rfl⟩:=rw';refine ⟨rfl,(by decide:1<=Ai),λh' e hm=>?_⟩;have e12:=e1a.trans e2a;exact hE e g2 s2.heap _ _ ⟨t,rfl⟩ e12.toX (F.up e12) (Id9 R2 ⟨hm.keeps,hm.new,hm.there⟩ rfl rfl)
theorem EvR.call {kws:List G8}{f:AV}(hn:Ev C k fr m σ (.Name x q) f z1)(hf:Kept C.W f)(ha:Evs C k fr m z1 es args z2)(hk:EvK C k fr m z2 kws kn kv z3)(hc:CallsR C.W C.Y k fr z3 f args kn kv mk X P z')(hpl:autoParam (∀env p,(Ft p (CV es env)).any (·.1)=Hr) ap0._auto_1):EvR C k fr m σ (.Call (.Name x q) es kws p) mk X P z':=λA env g s rm R F Q E hE=>by
  refine C6 (hn A env g s rm R F _ _ λvf g1 s1a R1 e1a rf=>?_);refine qdl (first:=[]) hf ha hk hpl rm R1 (F.up e1a) rf rfl λg2 s2 vs ks R2 e2a rf rv rk=>?_
  exact hc A g2 s2 vf vs ks rm R2 rf rv rk Q E λe g' h0a us s' hp e3a y=>hE e g' h0a us s' hp ((e1a.trans e2a).trans e3a) y
theorem Icz (he:EvR C k fr m σ e mk X P z')(hsw:autoParam (∀env,Gj [.Name x px] e p.line env=pure Hr) ap0._auto_1)(hst:autoParam (∀env,DR [.Name x px] e env=pure Dt) ap0._auto_1):
    ExR C k fr m σ (.Assign [.Name x px] e p) mk X P m z':=λA env outer g s hfr rm R F Q E hE=>
  CW (he A env g s rm R F _ _ λe g' h0a us s' hp e1a y=>hE e g' h0a us s' hp e1a.toX (F.up e1a) y) (hsw env) (hst env)
theorem qdx (F:Fra C env m g h):interactive env=Hr:=by
  have:=F.kind;unfold interactive;simp[this]
theorem Ex.expr (he:Ev C k fr m σ e v z')(hs:autoParam (∀env,swapsWith e Dt p.line env=pure Hr) ap0._auto_1):Ex C k fr m σ (.Expr e p) .next m z':=λA env g s rm R F Q E hQ=>
  wpAny_Expr_any (he A env g s rm R F _ _ λv' g1 s1a R1 e1a rv=>hQ _ g1 s1a R1 e1a.toX (F.up e1a) rfl) (qdx F) (hs env)
theorem ExR.expr (he:EvR C k fr m σ e mk X P z')(hs:autoParam (∀env,swapsWith e Dt p.line env=pure Hr) ap0._auto_1):ExR C k fr m σ (.Expr e p) mk X P m z':=λA env outer g s hfr rm R F Q E hE=>
  wpAny_Expr_any (he A env g s rm R F _ _ λe g' h0a us s' hp e1a y=>hE e g' h0a us s' hp e1a.toX (F.up e1a) y) (qdx F) (hs env)
theorem Id1 {pl:HA->Sem Bool}{o:Expr}{a f:AV}{first:List AV}(he:Ev C k fr m σ o a z1)(hm:MethOk C.W fr z1 a x f first)(hf:Kept C.W f)(ha:EvR C k fr m z1 e1 mk X P z')(hs:autoParam (∀env,CV [e1] env=[(Hr,eval e1 env)]) ap0._auto_1)(he':autoParam (∀env,eval (.Call (.Attribute o x q) [e1] [] p) env=(do
      let ov <- eval o env
      Dx q.atName
      let (f,first) <- Ea [ov] (getMethod ov x (pl env))
      callWith p f first (Ft p (CV [e1] env)) [])) ap0._auto_1):EvR C k fr m σ (.Call (.Attribute o x q) [e1] [] p) mk X P z':=λA env g s rm R F Q E hE=>by
  refine MethodCall_ (pl:=pl env) ?_ (he' env);refine he A env g s rm R F _ _ λva g1 s1a R1 e1a ra=>?_
  refine hm A g1 s1a va (pl env) _ _ R1 ra (λvf fs s2 R2 h2a rf rs=>?_);have e2a:Evo C.W noX C.Y g s.heap g1 s2.heap:=by rw[h2a];exact e1a
  rw[hs];refine G0 (P:=λh=>∃kp,(kp=FF\/kp=ES\/kp=DX)/\Looks (Hu C.W.prog C.W.w) h (Hj vf) kp) (by rfl) (λh q=>q) ?_;refine qd2 (by rfl) (by rfl) ?_;show Hs _ A (spliced ((Hr,eval e1 env)::[])) _ E s2;refine Calls.spliced_cons (ha A env g1 s2 rm R2 (F.up e2a) _ _ λe g' h0a us s' hp e3a y=>?_);exact hE e g' h0a us s' hp (e2a.trans e3a) y
theorem Id4 {fd:BV}(Fn:qqx C a fd body)(hb:qd7 C.W fd args kn kv xs vs)(B:Binds C.nm xs vs (AR C.nm.length Dt) m1)(hbody:∀env,ExsR C k (env::fr) m1 σ body mk X P m' z')(hY:∀n,n<σ.length->C.Y n->Y n):
    CallsR C.W Y (k+1) fr σ (.glob (.ref a)) args kn kv Hr X P z':=λA g s vf us ks rm R rf ru rk Q E hE=>by
  obtain rfl:vf=.ref a:=rf;refine qa4 (Fn.get) ?_;intro o ho hd;refine qaf (Fn.code) ?_;intro c oc cvs tq h1 h2 h3 h4 h5;refine qa4 (hb fr g σ s us ks R ru rk) ?_;intro ws hbt hws;refine E9 (DU rm.dep (R.base a o ho Fn.nt) hd Fn.co Fn.gen Fn.body ⟨c,oc,cvs,tq,h1,R.base c oc h2 h3,h4,h5⟩ (hbt _ _ _ _ ?_));rw[Fn.glob,Fn.clo,Fn.blt];refine qct (C:=C) (m0:=AR C.nm.length Dt) Fn.nm Fn.nd Fn.kind Fn.lk (by exact Fn.cd) (λo h=>by cases h) R (λi x kd hi=>⟨λhk=>by subst hk;exact absurd hi (Fn.nofree i x),λ_ av q=>by
    rw[BE] at q;split at q <;> cases q⟩) (.inr λi av q=>by rw[BE] at q;split at q <;> cases q) B hws (by simp) λenv g1 s1a R1 e1a F1 hsc hL hcl hown hfr _ hRc=>?_
  refine ⟨R1.nolim,GI ?_⟩;refine hbody env _ env fr g1 s1a rfl rm.deeper (hRc rfl) F1 _ _ λe g2 h2a us s2 hp e2a F2 y=>?_
  refine y.leave (by show (A.deeper env).frames=_;exact rm.deeper.frames) λs3 y3=>?_
  have hfresh:∀a o,s.heap.get? a=ER o->FX C.nm env a->noX a:=λa o ho ha=>by
    rcases ha with rfl | ⟨i,x,hi,hcx⟩
    . rw[hL] at ho;cases ho
    . rw[hown i x a hi hcx] at ho;cases ho
  have e12:Evo C.W noX C.Y g s.heap g2 h2a:=(e1a.no.toX.trans e2a).weak R.low hfresh λ_ q=>q
  exact hE e g2 h2a us s3 hp (e12.wkB R hY) y3
end
end
section
def ExF (C:Cx) (k:Nat) (env:HA) (outer:List HA) (m:List (Option AV)) (σ:List AObj) (st:Stmt) (fl:AFl) (m':List (Option AV)) (z':List AObj):Prop:=
  ∀(A:BJ) (g:Ht->Own) (s:Ab),Room k (env::outer) A->Rep C.W (env::outer) g σ s->Fra C env m g s.heap->∀(Q:Flow->Ab->Prop) (E:Hw->Ab->Prop),
    (∀f' g' s',Rep C.W (env::outer) g' z' s'->Evo C.W (FX C.nm env) C.Y g s.heap g' s'.heap->Fra C env m' g' s'.heap->RFl C.W g' s'.heap fl f'->Q f' s')->Hs (Hu C.W.prog C.W.w) A (exec st env) Q E s
def ExsF (C:Cx) (k:Nat) (env:HA) (outer:List HA) (m:List (Option AV)) (σ:List AObj) (sts:List Stmt) (fl:AFl) (m':List (Option AV)) (z':List AObj):Prop:=
  ∀(A:BJ) (g:Ht->Own) (s:Ab),Room k (env::outer) A->Rep C.W (env::outer) g σ s->Fra C env m g s.heap->∀(Q:Flow->Ab->Prop) (E:Hw->Ab->Prop),
    (∀f' g' s',Rep C.W (env::outer) g' z' s'->Evo C.W (FX C.nm env) C.Y g s.heap g' s'.heap->Fra C env m' g' s'.heap->RFl C.W g' s'.heap fl f'->Q f' s')->Hs (Hu C.W.prog C.W.w) A (execs sts env) Q E s
def ForF (C:Cx) (k:Nat) (env:HA) (outer:List HA) (t:Expr) (body orelse:List Stmt) (ai:AIt) (i:Nat) (m:List (Option AV)) (σ:List AObj) (fl:AFl) (m':List (Option AV)) (z':List AObj):Prop:=
  ∀(A:BJ) (g:Ht->Own) (s:Ab) (it:Hw) (ws:List Ht),Room k (env::outer) A->Rep C.W (env::outer) g σ s->Fra C env m g s.heap->ai.St C.W g s.heap ws it i->(∀a∈ws,Priv C.W g s.heap a)->∀(R:Ho->Ab->Prop),
    (∀f' g' s',Rep C.W (env::outer) g' z' s'->Evo C.W (λa=>FX C.nm env a\/a∈ws) C.Y g s.heap g' s'.heap->Fra C env m' g' s'.heap->RFl C.W g' s'.heap fl f'->R (.ok f') s')->Cn (Hu C.W.prog C.W.w) A (.forLoop t it body orelse env) R s
def ForR (C:Cx) (k:Nat) (fr:List HA) (t:Expr) (body orelse:List Stmt) (ai:AIt) (i:Nat) (m:List (Option AV)) (σ:List AObj) (X:String) (P:List Hw->Prop) (m':List (Option AV)) (z':List AObj):Prop:=
  ∀(A:BJ) (env:HA) (outer:List HA) (g:Ht->Own) (s:Ab) (it:Hw) (ws:List Ht),fr=env::outer->Room k fr A->Rep C.W fr g σ s->Fra C env m g s.heap->ai.St C.W g s.heap ws it i->(∀a∈ws,Priv C.W g s.heap a)->∀(R:Ho->Ab->Prop),
    (∀e g' h0a us s',P us->Evo C.W (λa=>FX C.nm env a\/a∈ws) C.Y g s.heap g' h0a->Fra C env m' g' h0a->Hold C.W env outer g' z' h0a e X us s'->R (.error (.ref e)) s')->Cn (Hu C.W.prog C.W.w) A (.forLoop t it body orelse env) R s
section
variable {outer:List HA} {mk:Bool} {X:String} {P:List Hw->Prop}
theorem Ex.f (h:Ex C k (env::outer) m σ st fl m' z'):ExF C k env outer m σ st fl m' z':=λA g s rm R F Q E hQ=>h A env g s rm R F Q E hQ
theorem Exs.f (h:Exs C k (env::outer) m σ sts fl m' z'):ExsF C k env outer m σ sts fl m' z':=λA g s rm R F Q E hQ=>h A env g s rm R F Q E hQ
theorem ExsF.nil:ExsF C k env outer m σ [] .next m σ:=λA g s rm R F Q E hQ=>Fu (hQ _ g s R Evo.refl F rfl)
theorem ExsF.cons {r:List Stmt}(h1:ExF C k env outer m σ st .next m1 z1)(h2:ExsF C k env outer m1 z1 r fl m' z'):ExsF C k env outer m σ (st::r) fl m' z':=λA g s rm R F Q E hQ=>by
  refine CA (h1 A g s rm R F _ _ λf' g1 s1a R1 e1a F1 hf=>?_);obtain rfl:f'=.next:=hf;exact h2 A g1 s1a rm R1 F1 Q E λf' g2 s2 R2 e2a F2 hf=>hQ f' g2 s2 R2 (e1a.trans e2a) F2 hf
theorem ExsF.ret {r:List Stmt}(h1:ExF C k env outer m σ st (.ret v) m' z'):ExsF C k env outer m σ (st::r) (.ret v) m' z':=λA g s rm R F Q E hQ=>by
  refine CA (h1 A g s rm R F _ _ λf' g1 s1a R1 e1a F1 hf=>?_);refine qa4 (hf) ?_;intro v' eq_0_1 hv;subst eq_0_1;exact hQ _ g1 s1a R1 e1a F1 ⟨v',rfl,hv⟩
theorem ForF.done (hO:ai.Ok σ)(hi:ai.items.length=i)(ho:ExsF C k env outer m σ orelse fl m' z'):ForF C k env outer t body orelse ai i m σ fl m' z':=λA g s it ws rm R F S hP Rr hR=>by
  refine qbe (Icn hO rm R S hP hi λg1 s1a R1 e1a=>?_);exact ho A g1 s1a rm R1 (F.turn hP e1a) _ _ λf' g2 s2 R2 e2a F2 hf=>hR f' g2 s2 R2 ((e1a.inX λ_ q=>.inr q).toY.trans (e2a.inX λ_ q=>.inl q)) F2 hf
theorem qh5 (hO:ai.Ok σ)(hp:ai.plain=Hq)(hv:ai.items[i]?=ER v)(ht:ai.pairs=Hq->∃elts n p,t=.Tuple elts n p)(ha:As C k fr m σ t v m1 z1){s:Ab}(rm:Room k fr A)(R:Rep C.W fr g σ s)(F:Fra C env m g s.heap)(S:ai.St C.W g s.heap ws it i)(hP:∀a∈ws,Priv C.W g s.heap a){Rr:Ho->Ab->Prop}(hR:∀g2 s2,Rep C.W fr g2 z1 s2->Evo C.W (λa=>FX C.nm env a\/a∈ws) C.Y g s.heap g2 s2.heap->Fra C env m1 g2 s2.heap->ai.St C.W g2 s2.heap ws it (i+1)->(∀a∈ws,Priv C.W g2 s2.heap a) ->
      Hs (Hu C.W.prog C.W.w) A (execs body env) (λf s3=>match f with
            | .next | .cont=>Cn (Hu C.W.prog C.W.w) A (.forLoop t it body orelse env) Rr s3
            | .brk=>Rr (.ok .next) s3
            | .ret v=>Rr (.ok (.ret v)) s3) (DZ (Hu C.W.prog C.W.w) A env λe s'=>Rr (.error e) s') s2):
    Cn (Hu C.W.prog C.W.w) A (.forLoop t it body orelse env) Rr s:=by
  refine qbe (AD (AIt.step (t:=t) hO rm R S hP hv ht (Q:=λv' s1a=>∃g1,Rep C.W fr g1 σ s1a/\Evo C.W (·∈ws) noY g s.heap g1 s1a.heap/\ai.St C.W g1 s1a.heap ws it (i+1)/\(∀a∈ws,Priv C.W g1 s1a.heap a)/\RV C.W g1 s1a.heap v v')
    λv' g1 s1a R1 e1a S1 hP1 rv=>⟨g1,R1,e1a,S1,hP1,rv⟩) (λr s1a h1a=>?_) λ_ _ e=>e)
  refine qa4 (h1a) ?_;(try clear h1a);intro v' eq_1_1 h1a;subst eq_1_1;refine AD h1a (λ_ s1' h1'=>?_) λ_ _ e=>e
  refine qew (h1') ?_;intro g1 R1 e1a S1 hP1 rv;have F1:=F.turn hP e1a;refine ha A env g1 s1' v' rm R1 F1 rv _ _ λg2 s2 R2 e2a F2=>?_
  have k2:∀a∈ws,∀o,s1'.heap.get? a=ER o->s2.heap.get? a=ER o:=λa ha o ho=>(Priv.keep F1 e2a (hP1 a ha) ho).1
  have hP2:∀a∈ws,Priv C.W g2 s2.heap a:=λa ha=>by refine qa4 ((hP1 a ha).obj) ?_;intro o ho _;exact (Priv.keep F1 e2a (hP1 a ha) ho).2
  exact hR g2 s2 R2 ((e1a.inX λ_ q=>.inr q).toY.trans (e2a.inX λ_ q=>.inl q)) F2 (AIt.St.mono e2a F1.xok k2 ai (.inr hp) S1) hP2
theorem qie {g2 g3:Ht->Own}{h2a h3:Heap}(hp:ai.plain=Hq)(F2:Fra C env m g2 h2a)(e3a:Evo C.W (FX C.nm env) C.Y g2 h2a g3 h3)(S2:ai.St C.W g2 h2a ws it i)(hP2:∀a∈ws,Priv C.W g2 h2a a):
    ai.St C.W g3 h3 ws it i/\∀a∈ws,Priv C.W g3 h3 a:=
  ⟨AIt.St.mono e3a F2.xok (λa ha o ho=>(Priv.keep F2 e3a (hP2 a ha) ho).1) ai (.inr hp) S2,λa ha=>by refine qa4 ((hP2 a ha).obj) ?_;intro o ho _;exact (Priv.keep F2 e3a (hP2 a ha) ho).2⟩
theorem ForF.next (hO:ai.Ok σ)(hp:ai.plain=Hq)(hv:ai.items[i]?=ER v)(ht:ai.pairs=Hq->∃elts n p,t=.Tuple elts n p)(ha:As C k (env::outer) m σ t v m1 z1)(hb:ExsF C k env outer m1 z1 body .next m2 z2)(hn:ForF C k env outer t body orelse ai (i+1) m2 z2 fl m' z'):ForF C k env outer t body orelse ai i m σ fl m' z':=λA g s it ws rm R F S hP Rr hR=>by
  refine qh5 hO hp hv ht ha rm R F S hP λg2 s2 R2 e2a F2 S2 hP2=>?_
  refine hb A g2 s2 rm R2 F2 _ _ λf' g3 s3 R3 e3a F3 hf=>?_
  obtain rfl:f'=.next:=hf;obtain ⟨S3,hP3⟩:=qie hp F2 e3a S2 hP2;exact hn A g3 s3 it ws rm R3 F3 S3 hP3 Rr λf' g4 s4 R4 e4 F4 hf=>hR f' g4 s4 R4 ((e2a.trans (e3a.inX λ_ q=>.inl q)).trans e4) F4 hf
theorem ForR.next (hO:ai.Ok σ)(hp:ai.plain=Hq)(hv:ai.items[i]?=ER v)(ht:ai.pairs=Hq->∃elts n p,t=.Tuple elts n p)(ha:As C k fr m σ t v m1 z1)(hb:Exs C k fr m1 z1 body .next m2 z2)(hn:ForR C k fr t body orelse ai (i+1) m2 z2 X P m' z'):ForR C k fr t body orelse ai i m σ X P m' z':=λA env outer g s it ws hfr rm R F S hP Rr hR=>by
  refine qh5 hO hp hv ht ha rm R F S hP λg2 s2 R2 e2a F2 S2 hP2=>?_
  refine hb A env g2 s2 rm R2 F2 _ _ λf' g3 s3 R3 e3a F3 hf=>?_
  obtain rfl:f'=.next:=hf;obtain ⟨S3,hP3⟩:=qie hp F2 e3a S2 hP2;exact hn A env outer g3 s3 it ws hfr rm R3 F3 S3 hP3 Rr λe g' h0a us s' hp' e4 F4 y=>hR e g' h0a us s' hp' ((e2a.trans (e3a.inX λ_ q=>.inl q)).trans e4) F4 y
theorem ForR.here (hO:ai.Ok σ)(hp:ai.plain=Hq)(hv:ai.items[i]?=ER v)(ht:ai.pairs=Hq->∃elts n p,t=.Tuple elts n p)(ha:As C k fr m σ t v m1 z1)(hb:ExsR C k fr m1 z1 body Hr X P m' z'):
    ForR C k fr t body orelse ai i m σ X P m' z':=λA env outer g s it ws hfr rm R F S hP Rr hR=>by
  refine qh5 hO hp hv ht ha rm R F S hP λg2 s2 R2 e2a F2 S2 hP2=>?_
  refine hb A env outer g2 s2 hfr rm R2 F2 _ _ λe g' h0a us s' hp' e3a F3 y=>?_
  subst hfr;exact y.note rm.frames λs4 y4=>hR e g' h0a us s4 hp' (e2a.trans (e3a.inX λ_ q=>.inl q)) F3 y4
theorem ForR.pre (h:ForR C k fr t body orelse ai i m σ X P m' z')(w:∀(i:Nat) (av:AV),m[i]?=ER (ER av)->m2[i]?=ER (ER av)):ForR C k fr t body orelse ai i m2 σ X P m' z':=λA env outer g s it ws hfr rm R F S hP Rr hR=>h A env outer g s it ws hfr rm R (F.weak w) S hP Rr hR
theorem Ie5 (hi:ItE C k (env::outer) m σ iter ai z1)(hf:ForF C k env outer t body orelse ai 0 m z1 fl m' z')(hs:autoParam (∀x env,BG iter env x=pure x) ap0._auto_1):
    ExF C k env outer m σ (.For t iter body orelse p) fl m' z':=λA g s rm R F Q E hQ=>by
  refine wpAny_For (hi A env g s rm R F _ _ λit g1 s1a ws R1 e1a S hP hfr=>?_) (λx=>hs x env);refine hf A g1 s1a it ws rm R1 (F.up e1a) S hP _ λf' g2 s2 R2 e2a F2 hf=>?_
  refine hQ f' g2 s2 R2 ?_ F2 hf;exact ((e1a.toX (X:=λa=>FX C.nm env a\/a∈ws)).trans e2a).weak R.low (λa o ho q=>q.resolve_right λq=>by rw[hfr a q] at ho;cases ho) λ_ q=>q
theorem Ie4 (hi:ItE C k fr m σ iter ai z1)(hf:ForR C k fr t body orelse ai 0 m z1 X P m' z')(hs:autoParam (∀x env,BG iter env x=pure x) ap0._auto_1):
    ExR C k fr m σ (.For t iter body orelse p) Hr X P m' z':=λA env outer g s hfr rm R F Q E hE=>by
  refine wpAny_For (hi A env g s rm R F _ _ λit g1 s1a ws R1 e1a S hP hfr'=>?_) (λx=>hs x env);refine hf A env outer g1 s1a it ws hfr rm R1 (F.up e1a) S hP _ λe g' h0a us s' hp e2a F2 y=>?_
  refine y.back λs3 y3=>hE e g' h0a us s3 hp ?_ F2 (hfr ▸ y3.fly)
  exact ((e1a.toX (X:=λa=>FX C.nm env a\/a∈ws)).trans e2a).weak R.low (λa o ho q=>q.resolve_right λq=>by rw[hfr' a q] at ho;cases ho) λ_ q=>q
end
end
section
theorem qtr {s:Ab}{m:Hv->Option Hw}{name:Hv}{Q:Bool->Ab->Prop}(hn:s.heap.Ns a m)(hs:(m name).isSome=Hq)(hQ:∀h' v,h'.Ns a (λx=>if x=name then v else m x)->AI a s.heap h'->(∀o,s.heap.get? a=ER o->∃o',h'.get? a=ER o'/\o'.cls=o.cls)->Q Hq { s with heap:=h' }):Hs M A (nsDel a name) Q E s:=by
  refine qa1 (id hn) ?_;intro ne_0_0 es ep ho hd hk hm;obtain ⟨cl,d,dt,sl⟩:=ne_0_0;have hd':dt=.dict es ep:=hd;subst hd';have hany:es.any (·.refKey)=Hr:=by
    rw[FB];intro e he;refine qkm (hk e he) ?_;intro n t h;simp[Gs,h]
  have hsome:es.any (·.key.isStr name)=Hq:=by
    rw[<- hm name] at hs;simp only[nsFind,findBy,Option.isSome_map,Array.find?_isSome] at hs;refine qa4 (hs) ?_;intro x hx hp;obtain ⟨i,hi,rfl⟩:=EX.mp hx;exact Array.any_eq_true.mpr ⟨i,hi,hp⟩
  have hhas:nsHas name (⟨cl,d,.dict es ep,sl⟩:Obj)=pure Hq:=by
    rw[nsHas_eq];unfold nsHasByArray;show (if (es.any λx=>x.key.isStr name)=Hq then _ else _)=_;rw[if_pos hsome]
  have hg:=Be (Obj.dropName name) ho (by simp only[Fx,El];cases es.findIdx? (·.key.isStr name) <;> rfl);unfold nsDel;refine Aa (wpAny_loadPart ho ?_);rw[hhas];refine Aa (Ad ?_);refine Aa (wpAny_updatePart ho (Ad ?_));have key:∃v,(s.heap.update a (Obj.dropName name)).Ns a (λx=>if x=name then v else m x):=by
    cases hi:es.findIdx? (·.key.isStr name) with
    | some i=>
      exact ⟨nsFind (es.eraseIdxIfInBounds i) name,_,_,ep+1,hg,(by simp only[Fx,El,hi] <;> rfl),hk.erase i,
        λx=>by
          show nsFind (es.eraseIdxIfInBounds i) x=if x=name then nsFind (es.eraseIdxIfInBounds i) name else m x;by_cases hx:x=name
          . rw[if_pos hx,hx]
          . rw[if_neg hx,nsFind_erase_other hi hx,hm]⟩
    | none=>exact ⟨m name,_,_,ep,hg,(by simp only[Fx,El,hi] <;> rfl),hk,λx=>by by_cases hx:x=name <;> simp[hx,hm]⟩
  obtain ⟨v,hv⟩:=key;refine hQ _ v hv (Bb ..) λo q=>⟨_,hg,?_⟩
  rw[ho] at q;obtain rfl:=Sj q;simp only[Fx,El];cases es.findIdx? (·.key.isStr name) <;> rfl
section
variable {outer:List HA} {mk:Bool} {X:String} {P:List Hw->Prop}
theorem qhk (hi:C.nm[i]?=ER (x,.local))(ha:m[i]?=ER (ER av)){s:Ab}(R:Rep C.W fr g σ s)(F:Fra C env m g s.heap){Q:Unit->Ab->Prop}(hQ:∀g' s',Rep C.W fr g' σ s'->Evo C.W (FX C.nm env) noY g s.heap g' s'.heap->Fra C env (m.set i Dt) g' s'.heap->Q () s'):Hs (Hu C.W.prog C.W.w) A (unbindBehindTheSuite env x pos) Q E s:=by
  refine qa4 (F.names i x _ hi) ?_;intro k' h3 h4;have:k'=.local:=by cases k' <;> first | rfl | (exact absurd h4 (by decide))
  subst this;refine qa4 (F.ns) ?_;intro mh hn hm;refine qa4 (hm i x av hi ha) ?_;intro v0 hv0 _;have hp:(env.scope.kind==.class||(env.scope.kind==.module&&env.locals != env.globals))=Hr:=by simp[F.kind]
  unfold unbindBehindTheSuite;refine Ds ?_;unfold unbindName;refine Aa (wpAny_point (Aa ?_));unfold deleteName;simp only[h3,hp];rw[if_neg (by decide)];refine Aa (qtr hn (by rw[hv0];rfl) λh' v hn' hs hcc=>?_);simp only[if_true,Option.isSome_some,Bool.not_true,Bj,if_false];refine Ad (wpAny_point ?_);refine qap (id hn) ?_;intro oL es ep hL hLd hr;refine qap (id hn') ?_;intro oL' es' ep' hL' hLd' hr';have hxo:XOk (λa=>a=env.locals) g s.heap:=λa ha=>by
    subst ha;exact ⟨.inl F.Lo,λo vs ho hd=>by rw[hL] at ho;obtain rfl:=Sj ho;rw[hLd] at hd;cases hd⟩
  obtain ⟨R',e⟩:=R.turn (g':=g) (h':=h') s.toks (λa=>a=env.locals) hxo (λa ha=>by subst ha;exact F.Lz) (λ_ _=>rfl) (λa ha=>by subst ha;exact F.Lo)
    (λa o ho ha=>(hs.2 a ha).trans ho) (λa o es n ha ho hd=>by subst ha;refine qa4 (hcc o ho) ?_;intro o' h5 h6;rw[hL'] at h5;obtain rfl:=Sj h5;exact ⟨oL',es',ep',hL',hLd',h6⟩)
  have up:∀av v,RV C.W g s.heap av v->RV C.W g h' av v:=λav v r=>r.mono e hxo av (.inl λa ha=>by subst ha;exact F.Lo) v
  refine hQ g _ R' ?_ ?_
  . exact e.weak (X':=FX C.nm env) (Y':=noY) R.low (λa o _ ha=>.inl ha) (λn q=>q.elim)
  . refine ⟨F.kind,F.names,F.nd,F.glob,F.blt,F.code,F.Lo,F.Lz,⟨_,hn',λj y av' h1 h2=>?_⟩,λj y kd h1 h2=>?_,?_,F.inj⟩
    . by_cases hj:j=i
      . subst hj;by_cases hl:j<m.length
        . rw[BK hl] at h2;cases h2
        . rw[Dd (by rw[Bv];simp_all)] at h2;cases h2
      . rw[AX (B5 hj)] at h2;refine qa4 (hm j y av' h1 h2) ?_;intro w h5 h6;refine ⟨w,?_,up _ _ h6⟩;have hne:y≠x:=λq=>hj (by subst q;exact F.nd j i y _ _ h1 hi)
        show (if y=x then v else mh y)=ER w;rw[if_neg hne];exact h5
    . refine qan (F.cell j y kd h1 h2) ?_;intro c ov h5 h6 h7 h8 h9;have hc:c≠env.locals:=λq=>by subst q;rw[hL] at h7;obtain rfl:=Sj h7;cases hLd
      refine ⟨c,ov,h5,h6,(hs.2 c hc).trans h7,h8,λav' q=>?_⟩;have hj:j≠i:=λq=>by subst q;rw[hi] at h1;cases h1;cases h2
      rw[AX (B5 hj)] at q;refine qa4 (h9 av' q) ?_;intro w h10 h11;exact ⟨w,h10,up _ _ h11⟩
    . refine F.pl.imp id λq j av' h=>?_
      by_cases hj:j=i
      . subst hj;by_cases hl:j<m.length
        . rw[BK hl] at h;cases h
        . rw[Dd (by rw[Bv];simp_all)] at h;cases h
      . rw[AX (B5 hj)] at h;exact q j av' h
theorem Fly.priv {h0a:Heap}{e:Ht}{us:List Hw}{s:Ab}(y:Fly W fr g σ h0a Hr e X us s)(hX:X ≠ "code")(hX2:X ≠ "frame"):
    ∃t oe vs ot nt,s.heap.get? e=ER oe/\oe.cls=.type X/\oe.data=.fields vs/\vs[0]?=ER (.ref t)/\s.heap.get? t=ER ot/\ot.cls=.type "tuple"/\ot.data=.seq us.toArray nt/\Priv W g s.heap e/\Priv W g s.heap t:=by
  refine qbj (y.it) ?_;intro FR s0 B eq_14_3 hg ho hsub R hc hu hB hk;subst eq_14_3;have fresh:∀{a o},B.get? a=Dt->s.heap.get? a=ER o->(∀es n,o.data≠.dict es n)->s0.heap.get? a=Dt:=λ{a o} hb hs hd=>by
    cases q:s0.heap.get? a with
    | none=>rfl
    | some o'=>
      exfalso
      by_cases hf:∃en∈FR,en.frame=ER a
      . refine qa4 (hf) ?_;intro en hen hfa;refine qcr (R.frs en hen) ?_;intro f o2 es ep h1 h2 h3 _;rw[hfa] at h1;obtain rfl:=Sj h1;obtain ⟨sl,h4⟩:=hu a o2 h2 λvs hv=>by rw[h3] at hv;cases hv
        rw[hs] at h4;obtain rfl:=Sj h4;exact hd _ _ h3
      . have:=hc a o' q λen hen hfa=>hf ⟨en,hen,hfa⟩
        rw[hb] at this;cases this
  have pv:∀{a o},s0.heap.get? a=Dt->s.heap.get? a=ER o->(∀es n,o.data≠.dict es n)->(∀v,o.data≠.cell v)->(∀vs,o.data=.fields vs->o.cls≠.type "code")->o.cls≠.type "frame"->Priv W g s.heap a:=λ{a o} h0 hs h1 h2 h3 h4=>
    ⟨R.newO h0,R.new1 h0,o,hs,h1,h2,h3,h4⟩
  rcases hk with ⟨q,_⟩ | ⟨_,t,ht,⟨ot,nt,t1,t2,t3⟩,hh⟩
  . cases q
  have he0:B.get? e=Dt:=by
    rcases hh with hf | ⟨L,env',rest,_,_,hh⟩
    . exact hf.2.1
    . exact hh.2.1
  obtain ⟨oe,ws,h1,h2,h3,h4⟩:∃oe vs,s.heap.get? e=ER oe/\oe.cls=.type X/\oe.data=.fields vs/\vs[0]?=ER (.ref t):=by
    rcases hh with hf | ⟨L,env',rest,he,hfr,hh⟩
    . exact hf.first
    . refine qh3 (hh) ?_;intro _ _ _ oe ws T oT ts h1 ne_17_9 h3 _;obtain ⟨h2,h4⟩:=ne_17_9;exact ⟨oe,ws,h1,h2,h3,h4⟩
  have e0:=fresh he0 h1 (λes n q=>by rw[h3] at q;cases q);have t0:=fresh ht t1 (λes n q=>by rw[t3] at q;cases q);exact ⟨t,oe,ws,ot,nt,h1,h2,h3,h4,t1,t2,t3,pv e0 h1 (λes n q=>by rw[h3] at q;cases q) (λv q=>by rw[h3] at q;cases q) (λ_ _ q=>hX (by rw[h2] at q;simpa using q)) (λq=>hX2 (by rw[h2] at q;simpa using q)),
    pv t0 t1 (λes n q=>by rw[t3] at q;cases q) (λv q=>by rw[t3] at q;cases q) (λ_ q=>by rw[t3] at q;cases q) (λq=>by rw[t2] at q;simp at q)⟩
theorem qh8 {v:Hw}(hi:C.nm[i]?=ER (x,.globalImplicit))(hg:C.W.mg x=Dt)(hv:C.W.mb x=ER v){s:Ab}(R:Rep C.W fr g σ s)(F:Fra C env m g s.heap)(hQ:Q v s)(hd:autoParam ((x==("__debug__":Hv))=Hr) ap1._auto_1):Hs (Hu C.W.prog C.W.w) A (eval (.Name x p) env) Q E s:=by
  refine qa4 (F.names i x _ hi) ?_;intro k' h9 h10;exact FL (qbf F.kind h9 h10 (Calls.loadGlobal_builtin (mg:=C.W.mg) (mb:=C.W.mb) (by rw[F.glob];exact R.gNs) hg (by rw[F.blt];exact R.bNs) hv hQ)) hd
theorem qfi (hi:C.nm[i]?=ER (x,.local))(ha:m[i]?=ER (ER av)){s:Ab}(F:Fra C env m g s.heap)(hQ:∀v,RV C.W g s.heap av v->Q v s)(hd:autoParam ((x==("__debug__":Hv))=Hr) ap1._auto_1):Hs (Hu C.W.prog C.W.w) A (eval (.Name x p) env) Q E s:=by
  refine qa4 (F.ns) ?_;intro mh hn hm;refine qa4 (hm i x av hi ha) ?_;intro w h1 h2;refine qa4 (F.names i x _ hi) ?_;intro k' h3 h4;have:k'=.local:=by cases k' <;> first | rfl | (exact absurd h4 (by decide))
  subst this;exact FL (Fh F.kind h3 hn h1 (hQ w h2)) hd
theorem Idh {c:Hv}{cp xp rp hp:Pos}{T:String}(hb:ExsR C k (env::outer) m σ body Hr X P m1 z1)(hX:X ≠ "code")(hX2:X ≠ "frame")(hexc:FI (.type T) (.type "BaseException")=pure Hq)(hnt:FI (.type ((Manifest.find? T).elim "type" λx=>x.metatype)) (.type "tuple")=pure Hr)(hsub:FI (.type X) (.type T)=pure Hq)(hc:C.nm[i]?=ER (c,.globalImplicit))(hg:C.W.mg c=Dt)(hv:C.W.mb c=ER (.type T))(hx:C.nm[j]?=ER (x,.local))(ha:m1[j]?=ER (ER v))(hd:autoParam ((c==("__debug__":Hv))=Hr) ap1._auto_1)(hd':autoParam ((x==("__debug__":Hv))=Hr) ap1._auto_1):
    ExF C k env outer m σ (.Try body [.ExceptHandler (ER (.Name c cp)) Dt [.Return (ER (.Name x xp)) rp] hp] [] [] p) (.ret v) m1 z1:=λA g s rm R F Q E hQ=>by
  refine wpAny_Try_except (hb A env outer g s rfl rm R F _ _ λe g' h0a us s' hp e1a F1 y=>?_);refine y.note rm.frames λs2 y2=>y2.land λs3 y3=>?_
  refine wpAny_handleBy_builtin (X:=X) (T:=T) (b:=Hq) hexc hnt hsub ?_;have F3:=F1.up y3.rep.2;refine qgi (y3.priv hX hX2) ?_;intro t oe vs ot nt h1 h2 h3 _;refine qh8 hc hg hv y3.rep.1 F3 ⟨rfl,⟨oe,h1,h2⟩,?_⟩ hd;refine y3.again λs4 y4=>?_
  refine AC ?_ y4.rep;intro R4 e4;have F4:=F1.up e4;refine CA (wpAny_Return_some (qfi hx ha F4 (λv' rv=>?_) hd'));exact hQ _ g' s4 R4 (e1a.trans e4.no.toX) F4 ⟨v',rfl,rv⟩
theorem Idg {c sn:Hv}{cp np np2 xp sp tp ip hp cp2 cmp:Pos}{rest:List Stmt}{l:Nat}{msg:Hv}(hb:ExsR C k (env::outer) m σ body Hr "ValueError" (λus=>∃t,us=[.str msg t]) m1 z1)(hc:C.nm[i]?=ER (c,.globalImplicit))(hg:C.W.mg c=Dt)(hv:C.W.mb c=ER (.type "ValueError"))(hx:C.nm[j]?=ER (x,.local))(hl:j<m1.length)(hs:C.nm[l]?=ER (sn,.globalImplicit))(hsg:C.W.mg sn=Dt)(hsv:C.W.mb sn=ER (.type "str"))(hd:autoParam ((c==("__debug__":Hv))=Hr) ap1._auto_1)(hd':autoParam ((x==("__debug__":Hv))=Hr) ap1._auto_1)(hd2:autoParam ((sn==("__debug__":Hv))=Hr) ap1._auto_1):
    ExF C k env outer m σ (.Try body [.ExceptHandler (ER (.Name c cp)) (ER x) [.If (.Compare (.Call (.Name sn np) [.Name x np2] [] cp2) [.NotEq] [.Constant (.str msg) n sp] cmp) rest [] ip] hp] [] [] p) .next (m1.set j Dt) z1:=λA g s rm R F Q E hQ=>by
  refine wpAny_Try_except (hb A env outer g s rfl rm R F _ _ λe g' h0a us s' hp e1a F1 y=>?_);refine Ap hp ?_;intro t0 eq_0_1;subst eq_0_1;refine y.note rm.frames λs2 y2=>y2.land λs3 y3=>?_
  refine wpAny_handleBy_builtin_as (X := "ValueError") (T := "ValueError") (b:=Hq) PySem.F.isExc_ValueError PySem.F.notTuple_ValueError (by rw[BY];kernel_rfl) ?_;have F3:=F1.up y3.rep.2;refine qgi (y3.priv (by decide) (by decide)) ?_;intro t oe vs ot nt h1 h2 h3 _;refine qh8 hc hg hv y3.rep.1 F3 ⟨rfl,⟨oe,h1,h2⟩,?_⟩ hd;refine y3.again λs4 y4=>?_
  refine AC ?_ y4.rep;intro R4 e4;have F4:=F1.up e4;refine qfu (y4.priv (by decide) (by decide)) ?_;intro t oe vs ot nt h1 h2 h3 h4 h5 h6 h7 pe pt;refine qbn (av:=.glob (.ref e)) hx (.inl rfl) R4 F4 rfl λg5 s5 R5 e5 F5=>?_
  have k1:=(Priv.keep F4 (e5.toY) pe h1).1;have k2:=(Priv.keep F4 (e5.toY) pt h5).1;refine CA (wpAny_If (wpAny_isTrue_Compare1 (C6 (qh8 hs hsg hsv R5 F5 ?_ hd2)) (by with_unfolding_all rfl)));refine PyProof.Rows.callWith_type (by rfl) (PySem.Calls.evalArgs_plain (Calls.spliced_cons (qfi hx (by rw[BK hl]) F5 (λv' rv=>Calls.spliced_nil ?_) hd')));obtain rfl:v'=.ref e:=rv;refine PySem.P.str_of_exc_one PySem.F.excStr_ValueError (m:=msg) (tk:=t0) (t0:=t) ?_ ⟨oe,vs,k1,h2,h3,h4⟩ ⟨ot,nt,k2,h6,h7⟩ ?_
  . have:=rm.units;show A.units+2<cLine;have:cLine=9900:=rfl;lia
  refine Calls.Constant_str (PyProof.Rows.ne_str (F9 ?_));rw[show (msg != msg)=Hr by simp];refine Fu (Fu (Aa (CK ?_)));have R5':=R5.tok (s5.toks+1);refine qbn (av:=.none) (s:={ s5 with toks:=s5.toks+1 }) hx (.inl rfl) R5' F5 rfl λg6 s6 R6 e6 F6=>?_
  refine qhk hx (by rw[BK (by rw[Bv];exact hl)]) R6 F6 λg7 s7 R7 e7 F7=>?_
  rw[Dr,Dr] at F7;exact hQ _ g7 s7 R7 (((((e1a.trans e4.no.toX).trans e5.toY).trans e6.toY).trans e7.toY)) F7 rfl
end
end
section
open PySem.Builtin PySem.Builtin.ObjectAttr
theorem md_slot:Slot "method_descriptor" "__get__" "method_descriptor.__get__":=
  .of (owner := "method_descriptor") (n := "__get__") (by rw[CQ,BR];kernel_rfl) (by decide +kernel) (by decide +kernel) (by decide +kernel)
    (by first | exact .inl (by decide +kernel) | exact .inr (by decide +kernel)) (by rw[BY];kernel_rfl)
theorem qpa:G2 table "method_descriptor.__get__"=ER Ax.«method_descriptor.__get__»:=entryFor_of_tree (by kernel_rfl)
theorem qru (a b c:Hw):GF "method_descriptor.__get__" ⟨[a,b,c],[]⟩:=by unfold GF;kernel_rfl
theorem qrt (x:Ht):∃t:Sem Unit,Ax.«method_descriptor.__get__» ⟨[.builtin "list.append",.ref x,.type "list"],[]⟩=((isInstance (.ref x) (.type "list") >>= λb=>if (!b)=Hq then t else pure ()) >>= λ_=>(newFields "builtin_function_or_method" [.builtin "list.append",.ref x] >>= λv=>ret v)):=⟨_,rfl⟩
theorem qrs (s:Ab):s.TypeIs (.builtin "list.append") "method_descriptor":=by
  show typeOf (.builtin "list.append")=pure (.type "method_descriptor");first | rfl | decide +kernel | kernel_rfl
theorem qtx:A6 (.type "method_descriptor") "__set__"=pure Dt:=by rw[CQ,BR];kernel_rfl
theorem qty:A6 (.type "method_descriptor") "__delete__"=pure Dt:=by rw[CQ,BR];kernel_rfl
theorem qne:builtinKind "list.append"=ER .method:=by decide +kernel
theorem qfa:A6 (.type "list") "append"=pure (ER (.builtin "list.append")):=PySem.F.slot_list_append.lookup
section
set_option maxHeartbeats 1000000 in
theorem qlk {g:Array FT}{d:Drawn}{t:Nat}{x:Ht}{vs:Array Hw}{expr:Bool}(hx:h.get? x=ER (qa8 vs n))(hq:∀tk,Q (.ref h.objs.size) ⟨h.push (qof "list.append" (.ref x)),g,d,tk,os⟩):Hs (Hu prog w) A (Hl (.ref x) "append" expr) Q E ⟨h,g,d,t,os⟩:=by
  have hT:∀tk',(⟨h,g,d,tk',os⟩:Ab).TypeIs (.ref x) "list":=λ_=>⟨_,hx,rfl⟩
  have f3:=PySem.F.slot_list_getattribute.lookup;have f4:=PySem.F.slot_list_getattribute.bind (.ref x);have f5:=am_list_getattr_none;have f6:=qfa;unfold Hl;refine Aa ?_;repeat (any_goals (first | assumption | exact hT _ | wp_step))
  rw[if_neg (by cases expr <;> simp[onTheHeap])];repeat (any_goals (first | assumption | exact hT _ | wp_step))
  refine qf1 (S:=λA' R s'=>s'.heap.get? x=ER (qa8 vs n)/\∀tk,R (.ok (.ret (.ref s'.heap.objs.size))) { s' with heap:=s'.heap.push (qof "list.append" (.ref x)),toks:=tk }) PySem.F.slot_list_getattribute (hT _) FU (PySem.F.args_list_getattribute_2 _ _) (Meets.of_wp λprog w A R s hs=>?_) ?_
  . obtain ⟨hp,g,d,tk,os⟩:=s;refine AC ?_ hs;intro hx hs;have hT:(⟨hp,g,d,tk,os⟩:Ab).TypeIs (.ref x) "list":=⟨_,hx,rfl⟩
    unfold Ax.«object.__getattribute__»;have k1:=qne;have k2:=md_slot.lookup;have k3:=qtx;have k4:=qty;have k5:=md_slot.bind (.builtin "list.append");repeat (any_goals (first | assumption | (rw[k1];show Hs _ _ (A6 (.type "method_descriptor") _) _ _ _) | wp_step))
    refine CL md_slot.plain qpa (md_slot.check _ _ _ _ _ _ _ _ (qrs _) (qru _ _ _) ?_);refine Ap (qrt x) ?_;intro t ht;show Hs _ _ (Ax.«method_descriptor.__get__» _) _ _ _;rw[ht];refine Aa (Aa (E7 (T := "list") (b:=Hq) hT (by rw[BY];kernel_rfl) (Ad ?_)));unfold newFields;repeat (any_goals (first | assumption | wp_step))
    exact ⟨_,rfl,hs tk⟩
  . exact ⟨hx,λtk=>Ad (hq tk)⟩
end
end
section
theorem qvc:∃sig,Em "list.append"=ER sig/\∀(a x:Hw),G5 "list.append" { sig with full:=s!"{Bind.lastOf "list"}.{Bind.lastOf "list.append"}" } ⟨[a,x],[]⟩=pure ():=by
  cases h:Em "list.append" with
  | none=>exact absurd (show (Em "list.append").isSome=Hq by decide +kernel) (by rw[h];simp)
  | some sig=>
    refine ⟨sig,rfl,λa x=>?_⟩;have hs:sig=(match Em "list.append" with | some s=>s | none=>sig):=by rw[h]
    rw[hs]
    kernel_rfl
theorem qvb:Manifest.varargsMethods.contains "list.append"=Hr:=by decide +kernel
section
theorem qk1 {s:Ab}{l:Ht}{x:Hw}{vs:Array Hw}{Q:Unit->Ab->Prop}(hl:s.heap.get? l=ER (qa8 vs n))(hQ:Q () s):Hs (Hu prog w) A (checkBoundCall "list.append" ⟨[.ref l,x],[]⟩) Q E s:=by
  refine qa4 (qvc) ?_;intro sig h1 h2;have hT:s.TypeIs (.ref l) "list":=⟨_,hl,rfl⟩
  unfold checkBoundCall;rw[h1,qne];show Hs _ _ (ite _ _ _) _ _ _;rw[if_neg (by decide)];refine Aa (E7 (T := "list") (b:=Hr) hT qdh ?_);rw[if_neg (by rw[qvb];decide)];obtain ⟨h,g,d,t,os⟩:=s;repeat (any_goals ((fail_if_success (with_reducible show Hs _ _ (G5 _ _ _) _ _ _));first | assumption | wp_step))
  show Hs _ _ (G5 "list.append" { sig with full:=s!"{Bind.lastOf "list"}.{Bind.lastOf "list.append"}" } ⟨[.ref l,x],[]⟩) _ _ _;rw[h2];exact Ad hQ
theorem qlv {s:Ab}{b l:Ht}{x:Hw}{vs:Array Hw}{S:PySem.Spec}(hb:s.heap.get? b=ER (qof "list.append" (.ref l)))(hl:s.heap.get? l=ER (qa8 vs n))(hm:Meets (Ax.«list.append» ⟨[.ref l,x],[]⟩) S)(hQ:S A (λr s'=>match r with | .ok (.ret v)=>Q v s' | .ok _=>False | .error e=>E e s') s):
    Hs (Hu prog w) A (call (.ref b) [x]) Q E s:=by
  refine E9 (DO ?_);show Hs _ A.in1 (callAny (.ref b) ⟨[x],[]⟩) _ _ s;refine Aa (EC hb ?_);show Hs _ _ (ite _ _ _) _ _ _;rw[if_pos (by rfl)];have hv0:(#[Value.builtin "list.append",Value.ref l])[0]?=ER (.builtin "list.append"):=rfl;have hv1:(#[Value.builtin "list.append",Value.ref l])[1]?=ER (.ref l):=rfl;rw[hv0,hv1];show Hs _ _ (ite _ _ _) _ _ _;rw[if_pos (by rfl)];refine Aa (qk1 hl (Ad ⟨plainId_quiet PySem.F.slot_list_append.plain _,codeAny_builtin PySem.F.entry_list_append (hm prog w _ _ s hQ)⟩))
end
section
theorem Ev.bound (he:Ev C k fr m σ e (.loc n) z')(hn:z'[n]?=ER (.lst l))(hb:autoParam (∀env w,attributeBase e "append" env w=w) ap0._auto_1):
    Ev C k fr m σ (.Attribute e "append" p) (.bound "list.append" (.loc n)) z':=λA env g s rm R F Q E hQ=>by
  rw[arm_eval_Attribute,hb];refine Aa (he A env g s rm R F _ _ λva g1 s1a R1 e1a ra=>?_);refine qa1 (qey R1 hn ra) ?_;intro a vs nn eq_2_3 hg ho hr;subst eq_2_3;obtain ⟨h,gs,d,t,os⟩:=s1a;refine Aa (AS (Aa (AK (qlk ho λtk=>?_))));refine Aa (wpAny_letTemporaryGo (Ad ?_));refine AC ?_ ((R1.tok tk).newFz (qof "list.append" (.ref a)));intro R2 e2a;exact hQ _ _ _ R2 (e1a.trans e2a.no) ⟨_,.ref a,rfl,qa3,Al _ rfl,a,rfl,e2a.loc a n hg⟩
theorem Calls.bound (hn:σ[n]?=ER (.lst l))(hY:Y n)(hp:plain v=Hq)(hz:l.length<=Ai):Calls W Y k fr σ (.bound "list.append" (.loc n)) [v] [] [] .none (σ.set n (.lst (l++[v]))):=λA g s vf us ks rm R rf ru rk Q E hQ=>by
  refine qn6 (rf) ?_;intro b sv eq_5_2 hgb hob a eq_5_6 hga;subst eq_5_2;subst eq_5_6;refine qa2 (ru) ?_;(try clear ru);intro u q eq_6_2 ru rq;subst eq_6_2;obtain rfl:q=[]:=rq;obtain rfl:ks=[]:=rk;refine qa1 (qey R hn ⟨a,rfl,hga⟩) ?_;intro a' vs nn e hg ho hr;cases e
  have e1:vs.size=l.length:=by rw[<- Az,hr.length]
  have hpl:plains l=Hq:=R.pl n _ hn;refine AC ?_ (R.updList (f:=λxs=>xs.push u) (l':=l++[v]) s.toks hn hg ho (by rw[Dp];exact hr.append (show RVs W g s.heap [v] [u] from ⟨u,[],rfl,ru,rfl⟩)) (by rw[qai,hpl];show (Hq&&(plain v&&Hq))=Hq;rw[hp];rfl));intro R' e';exact qlv hob ho (list_append a vs nn u (by rw[e1];exact hz)) ⟨ho,hQ _ _ _ R' (e'.toN hY) rfl⟩
end
end
section
theorem qjr:G2 table "iter"=ER Ax.«iter»:=Gv (by kernel_rfl)
theorem qg1:G2 table "next"=ER Ax.«next»:=Gv (by kernel_rfl)
theorem qm0 (a:Hw):GF "iter" ⟨[a],[]⟩:=by unfold GF;kernel_rfl
theorem qgx (a:Hw):GF "next" ⟨[a],[]⟩:=by unfold GF;kernel_rfl
section
variable {s:Ab}
theorem qnl {l:Ht}{vs:Array Hw}(hl:s.heap.get? l=ER (qa8 vs n))(hQ:Q (.ref s.heap.objs.size) { s with heap:=s.heap.push { cls:=.type "list_iterator",data:=.fields #[.ref l,.int 0 0] } }):
    Hs (Hu prog w) A (call (.builtin "iter") [.ref l]) Q E s:=by
  refine PySem.Calls.call_function_entry (by decide +kernel) (by decide +kernel) qjr (qm0 _) ?_;unfold Ax.«iter»;refine Aa (m:=someArgs "iter" 1 2 _) (Gb (a:=[Value.ref l]) (by first | rfl | kernel_rfl!) ?_);show Hs _ _ (Hg (.ref l) >>= _) _ _ _;exact Aa (Gc (qah hl) (Ad ⟨_,rfl,hQ⟩))
theorem qnd {it l:Ht}{vs:Array Hw}{x:Hw}(hit:s.heap.IsListIter it l i)(hl:s.heap.get? l=ER (qa8 vs n))(hx:vs[i]?=ER x)(hQ:∀h',h'.IsListIter it l (i+1)->AI it s.heap h'->Q x { s with heap:=h' }):Hs (Hu prog w) A (call (.builtin "next") [.ref it]) Q E s:=by
  refine PySem.Calls.call_function_entry (by decide +kernel) (by decide +kernel) qg1 (qgx _) ?_;unfold Ax.«next»;refine Aa (m:=someArgs "next" 1 2 _) (Gb (a:=[Value.ref it]) (by first | rfl | kernel_rfl!) ?_);dsimp only;refine Aa (DP (name:=Bh "__next__") hit.typeIs Db.lookup ?_);refine wpAny_ite_split (λhab=>absurd hab (by decide)) (λ_=>?_);refine qaj (id hit) ?_;intro o ho hc hd;refine Aa (DE (name:=Bh "__next__") hit.typeIs Db
    (Eb Db hit.typeIs entry_listiter_next ?_ (args_listiter_next _)))
  show Hs _ _ (field (.ref it) 0 >>= _) _ _ s;refine Aa (Cq ho hd (x:=.ref l) rfl ?_);show Hs _ _ (if (Value.ref l==Value.none)=Hq then _ else _) _ _ s;rw[if_neg (show ¬((Value.ref l==Value.none)=Hq) from AL)];show Hs _ _ (field (.ref it) 1 >>= _) _ _ s;refine Aa (Cq ho hd (x:=.int i 0) rfl ?_);show Hs _ _ (G9 (.ref l) >>= _) _ _ s;refine Aa (C8 hl rfl ?_);simp only[DY,hx];refine Aa (EU ho hd (by simp) (Ad ⟨x,rfl,Ad ⟨x,rfl,hQ _ ?_ (Bb ..)⟩⟩));exact ⟨_,Be _ ho (DT (CC hd _)),(Obj.cls_mapFields ..).trans hc,by
    rw[CC hd];simp[C7]⟩
theorem qnc {it l:Ht}{vs:Array Hw}(hh:A.handled=Dt)(hit:s.heap.IsListIter it l i)(hl:s.heap.get? l=ER (qa8 vs n))(hx:vs[i]?=Dt)(hE:∀h' h'' e,AI it s.heap h'->(∃o,h'.get? it=ER o)->G4 h' h'' e (.type "StopIteration") []->E (.ref e) { s with heap:=h'' }):Hs (Hu prog w) A (call (.builtin "next") [.ref it]) Q E s:=by
  refine PySem.Calls.call_function_entry (by decide +kernel) (by decide +kernel) qg1 (qgx _) ?_;unfold Ax.«next»;refine Aa (m:=someArgs "next" 1 2 _) (Gb (a:=[Value.ref it]) (by first | rfl | kernel_rfl!) ?_);dsimp only;refine Aa (DP (name:=Bh "__next__") hit.typeIs Db.lookup ?_);refine wpAny_ite_split (λhab=>absurd hab (by decide)) (λ_=>?_);refine qaj (id hit) ?_;intro o ho hc hd;refine Aa (DE (name:=Bh "__next__") hit.typeIs Db
    (Eb Db hit.typeIs entry_listiter_next ?_ (args_listiter_next _)))
  show Hs _ _ (field (.ref it) 0 >>= _) _ _ s;refine Aa (Cq ho hd (x:=.ref l) rfl ?_);show Hs _ _ (if (Value.ref l==Value.none)=Hq then _ else _) _ _ s;rw[if_neg (show ¬((Value.ref l==Value.none)=Hq) from AL)];show Hs _ _ (field (.ref it) 1 >>= _) _ _ s;refine Aa (Cq ho hd (x:=.int i 0) rfl ?_);show Hs _ _ (G9 (.ref l) >>= _) _ _ s;refine Aa (C8 hl rfl ?_);simp only[DY,hx];refine Aa (FP (Aa (EU ho hd (by simp) ?_)));show Hs _ _ (newExc (.type "StopIteration") [] >>= _) _ _ _;refine Aa ?_;simp only[newExc,newTuple];refine Aa (Bx ?_ (by size_fits));refine Aa (m:=FQ _ _) (Gb (a:=Value.none) (by first | rfl | (simp only[FQ];rfl)) ?_);refine Bx ?_ (by size_fits);simp only[raiseNew];refine Aa (wpAny_handled ?_);first | rw[show A.in1.in1.handled=Dt from hh] | rw[show A.in1.handled=Dt from hh] | rw[hh]
  refine Aa (Ad (wpAny_throw ?_));refine hE _ _ _ (Bb ..) ⟨_,Be _ ho (DT (CC hd _))⟩ ⟨λb o q=>Am _ (Am _ q),?_,⟨_,Al _ rfl,?_,Am _ (Al _ rfl)⟩⟩
  . exact BW (by rw[D8];exact Dn _)
  . exact qag _
end
section
theorem Id6 (hp:plains l=Hq):Calls W Y k fr σ (.glob (.builtin "iter")) [.lst l] [] [] (.loc σ.length) (σ++[.iter l]):=λA g s vf us ks rm R rf ru rk Q E hQ=>by
  obtain rfl:vf=.builtin "iter":=rf;refine qa2 (ru) ?_;intro u q eq_2_2 ne_2_3 rq;subst eq_2_2;refine qa1 ne_2_3 ?_;intro a vs n eq_0_3 hg ho hr;subst eq_0_3;obtain rfl:q=[]:=rq;obtain rfl:ks=[]:=rk;have e2a:Evo W noX noY g s.heap (qbw g s.heap.objs.size (.loc σ.length)) (s.heap.push { cls:=.type "list_iterator",data:=.fields #[.ref a,.int 0 0] }):=R.pushEvo _ _;refine qnl ho ?_;refine AC ?_ (R.pushLoc { cls:=.type "list_iterator",data:=.fields #[.ref a,.int 0 0] } (ao:=.iter l) hp ⟨a,0,vs,n,⟨_,Al _ rfl,rfl,rfl⟩,e2a.fz a hg (λq=>q),Am _ ho,hr.up e2a⟩);intro R2 e3a;exact hQ _ _ _ R2 e3a.no ⟨_,rfl,qa3⟩
theorem qnm {s:Ab}(R:Rep W fr g σ s)(hn:σ[n]?=ER (.iter l))(ra:RV W g s.heap (.loc n) va):
    ∃(a la:Ht) (i:Nat) (vs:Array Hw) (k:Nat),va=.ref a/\g a=.loc n/\s.heap.IsListIter a la i/\g la=.fz/\s.heap.get? la=ER (qa8 vs k)/\RVs W g s.heap l (vs.toList.drop i):=by
  refine qa4 (ra) ?_;intro a eq_4_1 hg;subst eq_4_1;refine qja (R.locs n _ hn) ?_;intro a' hg' la i vs k h1 h2 h3 h4;have:a'=a:=R.uniq _ _ _ hg' hg;subst this;exact ⟨a',la,i,vs,k,rfl,hg,h1,h2,h3,h4⟩
theorem Ic7 (hn:σ[n]?=ER (.iter (v::l)))(hY:Y n):Calls W Y k fr σ (.glob (.builtin "next")) [.loc n] [] [] v (σ.set n (.iter l)):=λA g s vf us ks rm R rf ru rk Q E hQ=>by
  obtain rfl:vf=.builtin "next":=rf;refine qa2 (ru) ?_;(try clear ru);intro u q eq_6_2 ru rq;subst eq_6_2;obtain rfl:q=[]:=rq;obtain rfl:ks=[]:=rk;refine qf9 (qnm R hn ru) ?_;intro a la i vs kk eq_7_5 hg hit hgl hl u r hd rv hr;subst eq_7_5;have hx:vs[i]?=ER u:=by
    have:(vs.toList.drop i)[0]?=ER u:=by rw[hd];rfl
    rw[DJ,Nat.add_zero,BB] at this;exact this
  have hd':vs.toList.drop (i+1)=r:=by rw[<- List.drop_drop,hd];rfl
  refine qnd hit hl hx λh' hit' hs=>?_
  have hk:∀b o,s.heap.get? b=ER o->g b≠.loc n->g b≠.aux n->h'.get? b=ER o:=λb o ho q _=>(hs.2 b (λq'=>q (by rw[q'];exact hg))).trans ho
  have e:=Evo.setLoc (g':=g) R (n:=n) (λb o ho=>rfl) hk;have hp:=R.pl n _ hn;have hp2:plains l=Hq:=by have:(plain v&&plains l)=Hq:=hp;rw[AH] at this;exact this.2
  have hne:la≠a:=λq=>by rw[q,hg] at hgl;cases hgl
  refine hQ u g _ (R.setLoc (ao':=.iter l) s.toks hn (λb o ho=>rfl) (λb hb=>.inl (R.newO hb)) hk (λb o ho hq=>?_) hp2 (λb hb=>?_)) (e.toN hY) (rv.up e)
  . by_cases q:b=a
    . subst q;refine qa4 (hit') ?_;intro o' ho' _;exact ⟨o',ho'⟩
    . exact ⟨o,(hs.2 b q).trans ho⟩
  . have:b=a:=R.uniq _ _ _ hb hg;subst this;exact ⟨la,i+1,vs,kk,hit',hgl,(hs.2 la hne).trans hl,by rw[hd'];exact hr.up e⟩
theorem Ict (hn:σ[n]?=ER (.iter []))(hY:Y n):CallsR W Y k fr σ (.glob (.builtin "next")) [.loc n] [] [] Hq "StopIteration" (λus=>us=[]) (σ.set n .iterDone):=λA g s vf us ks rm R rf ru rk Q E hE=>by
  obtain rfl:vf=.builtin "next":=rf;refine qa2 (ru) ?_;(try clear ru);intro u q eq_9_2 ru rq;subst eq_9_2;obtain rfl:q=[]:=rq;obtain rfl:ks=[]:=rk;refine qhz (qnm R hn ru) ?_;intro a la i vs kk eq_10_5 hg hit hgl hl hr;subst eq_10_5;have hx:vs[i]?=Dt:=by
    have:(vs.toList.drop i)[0]?=Dt:=by rw[(hr:vs.toList.drop i=[])];rfl
    rw[DJ,Nat.add_zero,BB] at this;exact this
  refine qnc rm.handled hit hl hx λh' h'' e hs hex hm=>?_
  have hk:∀b o,s.heap.get? b=ER o->g b≠.loc n->g b≠.aux n->h'.get? b=ER o:=λb o ho q _=>(hs.2 b (λq'=>q (by rw[q'];exact hg))).trans ho
  have ev:=Evo.setLoc (g':=g) R (n:=n) (λb o ho=>rfl) hk;have R':=R.setLoc (g':=g) (h':=h') (ao':=.iterDone) s.toks hn (λb o ho=>rfl) (λb hb=>.inl (R.newO hb)) hk (λb o ho hq=>by
    by_cases q:b=a
    . subst q;exact hex
    . exact ⟨o,(hs.2 b q).trans ho⟩) rfl (λb hb=>trivial)
  exact hE e g h' [] _ rfl (ev.toN hY) (Id9 R' hm rfl rfl)
end
end
section
section
variable [DecidableEq K] {knd:KeyKind prog w K} {s:Ab}
theorem qha {d:Ht}{kvs:List (K×Hw)}{k:K}{key v:Hw}{Q:Unit->Ab->Prop}(hkey:knd.is k key=Hq)(hm:s.heap.DictOf knd d kvs)(hQ:∀h',h'.DictOf knd d (Hh kvs k v)->AI d s.heap h'->Q () { s with heap:=h' })(hsz:kvs.length<=Ai):Hs (Hu prog w) A (dictPut d (knd.hash k) key v) Q E s:=by
  refine qb1 (hm) ?_;intro o es ep ho hc hd hk hp hn;have hes:es.size<=Ai:=by
    have e1:=hp.length;have e2:es.toList.length=es.size:=by rfl
    simp_all
  unfold dictPut;refine Aa (wpAny_dictFind_of hkey ho hd hk ?_);have hidx:(es.findIdx? λe=>knd.is k e.key)=kvs.findIdx? λkv=>decide (kv.1=k):=by
    rw[<- hp.findIdx k];obtain ⟨l⟩:=es;simp
  cases hi:es.findIdx? λe=>knd.is k e.key with
  | some i=>
    refine wpAny_updateDict ho hd (hQ _ ⟨_,_,ep,Be _ ho (Obj.isFreed_of_dict (Obj.data_mapDict hd _)),
      hc.mapDict _,Obj.data_mapDict hd _,hk.modify _ _,?_,?_⟩ (Bb ..))
    . rw[Hh,if_pos (any_of_findIdx_some (hidx ▸ hi))];have hl:(es.toList.findIdx? λe=>knd.is k e.key)=ER i:=by rw[<- hi];obtain ⟨l⟩:=es;simp
      have:=hp.modify hn hl v;obtain ⟨l⟩:=es;simpa using this
    . rw[Hh,if_pos (any_of_findIdx_some (hidx ▸ hi)),keys_map_store];exact hn
  | none=>
    have hnot:k∉kvs.map (·.1):=not_mem_of_findIdx_none (hidx ▸ hi);have hany:¬(kvs.any λkv=>decide (kv.1=k))=Hq:=by
      rw[E8];rintro ⟨kv,hkv,he⟩;exact hnot (Bg.mpr ⟨kv,hkv,of_decide_eq_true he⟩)
    refine wpAny_updateDictKeys (hz:=hes) ho hd (hQ _ ⟨_,_,ep+1,Be _ ho (Obj.isFreed_of_dict (Obj.data_mapDictKeys hd _)),
      hc.mapDictKeys _,Obj.data_mapDictKeys hd _,hk.push hkey _,?_,?_⟩ (Bb ..))
    . rw[Hh,if_neg hany];have:=hp.append hkey (knd.hash k) v;obtain ⟨l⟩:=es;simpa using this
    . rw[Hh,if_neg hany,AT,CM];refine ⟨hn,by simp,?_⟩;intro a ha b hb;simp only[Bp,List.map_nil,AE] at hb;subst hb;exact λe=>hnot (e ▸ ha)
end
section
variable {s:Ab}
theorem qgl {d o:Ht}{kvs more:List (Hv×Hw)}{oo:Obj}{eso:Array Dj}{epo:Nat}{Q:PUnit->Ab->Prop}(hdo:d≠o)(hdo':oo.data=.dict eso epo)(hko:KeysOf (Hx prog w) eso)(hpo:Pairs (Hx prog w) eso.toList more)(hlen:more.length=eso.size)(hsz:kvs.length+more.length<=Ai)(f:Nat->PUnit->Sem (ForInStep PUnit))(hf:∀i u,f i u=(do
      let ER e:=(<- dictEntries o)[i]? | G6 "dict.changed-during-merge";pure (Ch ⟨⟩)
      Ea [e.key,e.val] (dictPut d e.hash e.key e.val)
      if (<- dictEpoch o) != epo then G6 "dict.changed-during-merge";pure (Ch ⟨⟩) else pure (Ch ⟨⟩))):∀(n i:Nat) (s:Ab),i+n=eso.size->s.heap.DictOf (Hx prog w) d (G3 kvs (more.take i))->s.heap.get? o=ER oo ->
    (∀h',h'.DictOf (Hx prog w) d (G3 kvs more)->AI d s.heap h'->Q ⟨⟩ { s with heap:=h' })->Hs (Hu prog w) A (forIn (List.range' i n) Ck f) Q E s
  | 0,i,s,hi,hd,hoo,hQ=>by
    rw[List.range'_zero,C5];have:i=more.length:=by simp_all
    subst this;rw[List.take_length] at hd;exact Ad (hQ s.heap hd (AI.refl _ _))
  | n+1,i,s,hi,hd,hoo,hQ=>by
    have hlt:i<eso.size:=by lia
    rw[List.range'_succ,Cg,hf];obtain ⟨kv,hkv⟩:∃kv,more[i]?=ER kv:=⟨more[i]'(by rw[hlen];exact hlt),Aj _⟩
    obtain ⟨k,v⟩:=kv;refine AC ?_ (hpo.get? (e:=eso[i]) (by simp[hlt]) hkv);intro hkey hval;refine qa4 (hko eso[i] (Array.getElem_mem hlt)) ?_;intro k' hkey' hhash;obtain rfl:k'=k:=(Hx prog w).inj _ _ _ hkey' hkey;have hmx:(G3 kvs (more.take i)).length<=Ai:=by
      have e1:=merged_length_le kvs (more.take i);have e2:(more.take i).length<=more.length:=by rw[CD];grind
      lia
    refine Aa (Aa (EV hoo hdo' ?_));rw[Dg hlt];show Hs _ _ (Ea [eso[i].key,eso[i].val] (dictPut d eso[i].hash eso[i].key eso[i].val) >>= _) _ _ _;rw[hhash,hval];refine Aa (AK (qha (hsz:=hmx) hkey hd λh'' hd'' hs''=>?_));have hoo'':h''.get? o=ER oo:=(hs''.2 o (B5 hdo)).trans hoo;refine Aa (wpAny_dictEpoch hoo'' hdo' ?_);rw[if_neg (by simp)];refine Ad ?_;refine qgl hdo hdo' hko hpo hlen hsz f hf n (i+1) _ (by lia) (by rw[merged_take_succ kvs more i (k',v) hkv];exact hd'') hoo'' λh' h1 h2=>hQ h' h1 (hs''.trans h2)
theorem qi4 {d o:Ht}{kvs more:List (Hv×Hw)}{Q:Unit->Ab->Prop}(hdo:d≠o)(hoS:(o==Cy)=Hr)(hd:s.heap.DictOf (Hx prog w) d kvs)(ho:s.heap.DictOf (Hx prog w) o more)(hQ:∀h',h'.DictOf (Hx prog w) d (G3 kvs more)->AI d s.heap h'->Q () { s with heap:=h' })(hsz:kvs.length+more.length<=Ai):Hs (Hu prog w) A (GJ d (.ref o) Hr) Q E s:=by
  refine qb1 (id hd) ?_;intro od esd epd hod hcd hdd hkd hpd hnd;refine qb1 (id ho) ?_;intro oo eso epo hoo hco hdo' hko hpo hno;have hT:s.TypeIs (.ref o) "dict":=⟨oo,hoo,hco.1⟩
  have hlen:more.length=eso.size:=by rw[<- hpo.length];simp
  unfold GJ;refine Aa (E7 (T := "dict") (b:=Hq) hT (by rw[BY];kernel_rfl) ?_);rw[if_pos rfl];refine Aa (DP (name:=Bh "__iter__") hT PySem.F.slot_dict_iter.lookup (Aa (Ad ?_)));simp only[beq_self_eq_true];rw[if_neg (by rw[hoS];exact AL)];refine Aa (EV hod hdd ?_);have main:Hs (Hu prog w) A (do
      let size:=(<- dictEntries o).size
      let epoch <- dictEpoch o
      forIn (Ae size) Ck λi _=>(do
        let ER e:=(<- dictEntries o)[i]? | G6 "dict.changed-during-merge";pure (Ch ⟨⟩)
        Ea [e.key,e.val] (dictPut d e.hash e.key e.val)
        if (<- dictEpoch o) != epoch then G6 "dict.changed-during-merge";pure (Ch ⟨⟩) else pure (Ch ⟨⟩):Sem (ForInStep PUnit))
      pure ()) Q E s:=by
    refine Aa (EV hoo hdo' ?_);refine Aa (wpAny_dictEpoch hoo hdo' ?_);refine Aa ?_;rw[List.range_eq_range'];exact qgl hdo hdo' hko hpo hlen hsz _ (λ_ _=>rfl) eso.size 0 s (by simp +arith) (by simpa [G3] using hd) hoo λh' h1 h2=>Ad (hQ h' h1 h2)
  split
  . refine Aa (EV hoo hdo' ?_);rw[<- Array.forIn_toList];rw[forIn_yield_id Ck (λe he c=>by
      refine qa4 (hko e (by simpa using he)) ?_;intro k hk _;refine Ap (Value.isStrOf_shape hk) ?_;intro t ht;simp only[ht])]
    exact Aa (Ad main)
  . exact main
end
end
section
section
variable {s:Ab}
theorem qq0 {v1 v2:Sem Hw}(h:Hs (Hu prog w) A v1 (λm1 s1=>Hs (Hu prog w) A (GJ s.heap.objs.size m1 Hr) (λ_ s2=>Hs (Hu prog w) A v2 (λm2 s3=>
      Hs (Hu prog w) A (GJ s.heap.objs.size m2 Hr) (λ_ s4=>Q (.ref s.heap.objs.size) s4) (λ_ _=>False) s3) E s2) (λ_ _=>False) s1) E { s with heap:=s.heap.push { cls:=.type "dict",data:=.dict #[] } }):
    Hs (Hu prog w) A (dictDisplay [(Dt,v1),(Dt,v2)]) Q E s:=by
  unfold dictDisplay;refine Aa ?_;rw[Cg];refine Aa ?_;refine Aa (Ad ?_);refine Aa (GY ?_);refine Aa (AK (AD h (λm1 s1 h1=>?_) λ_ _ x=>x));refine Aa (Ds (wpAny_tryCatch (Ds (AK (AD h1 (λ_ s2 h2=>?_) λ_ _ x=>x.elim)))));refine Ad ?_;dsimp only;rw[Cg];refine Aa ?_;refine Aa (Ad ?_);refine Aa (Ad ?_);refine Aa (AK (AD h2 (λm2 s3 h3=>?_) λ_ _ x=>x));refine Aa (Ds (wpAny_tryCatch (Ds (AK (AD h3 (λ_ s4 h4=>?_) λ_ _ x=>x.elim)))));refine Ad ?_;dsimp only;rw[C5];refine Ad ?_;refine Aa (Ad (Ad h4))
end
def Dsrc (W:Wd) (σ:List AObj) (v:AV) (ks:List Hv) (vs:List AV):Prop:=
  (∃n:Nat,v=.loc n/\σ[n]?=ER (.dstr ks vs))\/(∃a,v=.glob (.ref a)/\ks=[]/\vs=[]/\W.s1.heap.DictOf (Hx W.prog W.w) a []/\¬W.tab a/\(a==Cy)=Hr)
theorem Dsrc.at {s:Ab}{u:Hw}(D:Dsrc W σ v ks vs)(R:Rep W fr g σ s)(r:RV W g s.heap v u):
    ∃a us,u=.ref a/\s.heap.DictOf (Hx W.prog W.w) a (ks.zip us)/\ks.length=us.length/\RVs W g s.heap vs us/\(a==Cy)=Hr/\(g a=.other->∃o,W.s1.heap.get? a=ER o):=by
  rcases D with ⟨n,rfl,hn⟩ | ⟨a,rfl,rfl,rfl,hd,ht,hs⟩
  . refine qa4 (r) ?_;intro a eq_0_1 hg;subst eq_0_1;refine qcy (R.locs n _ hn) ?_;intro a' hg' us h1 h2 h3;have:a'=a:=R.uniq _ _ _ hg' hg;subst this;exact ⟨a',us,rfl,h1,h2,h3,qdq R hg,λq=>by rw[hg] at q;cases q⟩
  . obtain rfl:u=.ref a:=r;rw[Cp] at hd;refine qa4 (hd) ?_;intro o ho q;exact ⟨a,[],rfl,Cp.mpr ⟨o,R.base a o ho ht,q⟩,rfl,rfl,hs,λ_=>⟨o,ho⟩⟩
noncomputable def qad:List Hv->List AV->List Hv->List AV->List Hv×List AV
  | ks,vs,k::ks',v::vs'=>qad (qfq ks vs k v).1 (qfq ks vs k v).2 ks' vs'
  | ks,vs,_,_=>(ks,vs)
theorem qex:∀{ks':List Hv} {vs':List AV} {us':List Hw} {ks:List Hv} {vs:List AV} {us:List Hw},ks.length=us.length->RVs W g h vs us->ks'.length=us'.length->RVs W g h vs' us' ->
    ∃ws,G3 (ks.zip us) (ks'.zip us')=(qad ks vs ks' vs').1.zip ws/\(qad ks vs ks' vs').1.length=ws.length/\RVs W g h (qad ks vs ks' vs').2 ws
  | [],vs',us',ks,vs,us,h1,h2,h3,h4=>by
    have e:qad ks vs [] vs'=(ks,vs):=by cases vs' <;> rfl
    rw[e];exact ⟨us,rfl,h1,h2⟩
  | k::ks',[],us',ks,vs,us,h1,h2,h3,h4=>by obtain rfl:us'=[]:=h4;cases h3
  | k::ks',v::vs',us',ks,vs,us,h1,h2,h3,h4=>by
    refine qa2 (h4) ?_;intro u r eq_3_2 h5 h6;subst eq_3_2;refine qaj (qeo (x:=k) h1 h2 h5) ?_;intro ws e1 e2 e3;refine qaj (qex (ks':=ks') e2 e3 (by simpa using h3) h6) ?_;intro ws' f1 f2 f3;refine ⟨ws',?_,f2,f3⟩;show G3 (Hh (ks.zip us) k u) (ks'.zip r)=_;rw[e1];exact f1
theorem qdg:∀{ks':List Hv} {vs':List AV} {ks:List Hv} {vs:List AV},plains vs=Hq->plains vs'=Hq->plains (qad ks vs ks' vs').2=Hq
  | [],vs',ks,vs,h1,h2=>by
    have e:qad ks vs [] vs'=(ks,vs):=by cases vs' <;> rfl
    rw[e];exact h1
  | k::ks',[],ks,vs,h1,h2=>h1
  | k::ks',v::vs',ks,vs,h1,h2=>by
    have h':(plain v&&plains vs')=Hq:=h2;rw[AH] at h';show plains (qad (qfq ks vs k v).1 (qfq ks vs k v).2 ks' vs').2=Hq;exact qdg (qes h'.1 h1) h'.2
section
theorem Ie6 {y:Hv}{a b:AV}{ks':List Hv}{vs':List AV}(hx:C.nm[i]?=ER (x,.local))(hy:C.nm[j]?=ER (y,.local))(ha:m[i]?=ER (ER a))(hb:m[j]?=ER (ER b))(da:Dsrc C.W σ a ks vs)(db:Dsrc C.W σ b ks' vs')(hp:plains vs=Hq)(hp':plains vs'=Hq)(hz:ks.length+ks'.length<=Ai)(hd:autoParam ((x==("__debug__":Hv))=Hr) ap1._auto_1)(hd':autoParam ((y==("__debug__":Hv))=Hr) ap1._auto_1):
    Ev C k fr m σ (.Dict [Dt,Dt] [.Name x px,.Name y py] p) (.loc σ.length) (σ++[.dstr (qad (qad [] [] ks vs).1 (qad [] [] ks vs).2 ks' vs').1 (qad (qad [] [] ks vs).1 (qad [] [] ks vs).2 ks' vs').2]):=λA env g s rm R F Q E hQ=>by
  rw[arm_eval_Dict];refine Aa (AS ?_);show Hs _ A (dictDisplay [(Dt,do let v <- eval (.Name x px) env;Dx p;pure v),(Dt,do let v <- eval (.Name y py) env;Dx p;pure v)]) Q E s;refine qq0 ?_;have htop:=R.top;have hn0:s.heap.get? s.heap.objs.size=Dt:=qag _;refine AC ?_ (R.push { cls:=.type "dict",data:=.dict #[] } .other rfl (.inr rfl));intro R1 e1a;have hgo:qbw g s.heap.objs.size .other=g:=by
    funext c
    by_cases hc:c=s.heap.objs.size
    . subst hc;rw[qa3,htop]
    . exact qa5 hc
  rw[hgo] at R1 e1a;have hn1:=R.new1 hn0;have hD:(s.heap.push { cls:=.type "dict",data:=.dict #[] }).DictOf (Hx C.W.prog C.W.w) s.heap.objs.size []:=⟨_,#[],0,Al _ rfl,⟨rfl,rfl,rfl⟩,rfl,λe he=>absurd he (by simp),.nil,by simp⟩
  have F1:=F.up e1a;have hDobj:(s.heap.push { cls:=.type "dict",data:=.dict #[] }).get? s.heap.objs.size=ER { cls:=.type "dict",data:=.dict #[] }:=Al _ rfl;have hX:XOk (·=s.heap.objs.size) g (s.heap.push { cls:=.type "dict",data:=.dict #[] }):=λc hc=>by
    subst hc;exact ⟨.inl htop,λo ws ho hd=>by rw[hDobj] at ho;obtain rfl:=Sj ho;cases hd⟩
  have hfrD:∀en∈fr,∀f,en.frame=ER f->f≠s.heap.objs.size:=λen hen f hf q=>by
    refine qdp (R.frs en hen) ?_;intro f' o es ep h3 h4 _;rw[hf] at h3;obtain rfl:=Sj h3;rw[q,hn0] at h4;cases h4
  have hLD:¬env.locals=s.heap.objs.size:=λq=>by
    refine qa4 (F.ns) ?_;intro mh ne_8_1 _;refine qbs ne_8_1 ?_;intro oL es ep hL _;rw[q,hn0] at hL;cases hL
  refine Aa (qfi hx ha F1 (λv1 rv1=>?_) hd);refine Aa (AS (Ad ?_));refine qdf (da.at R1 rv1) ?_;intro a1 us1 eq_9_2 d1 l1 r1 q1 q1';subst eq_9_2;have hne1:s.heap.objs.size≠a1:=λq=>by
    refine Ap (q1' (q ▸ htop)) ?_;intro o ho;rw[<- q,hn1] at ho;cases ho
  refine qi4 hne1 q1 hD d1 (λh' hm hs=>?_) (by rw[Dk,CR];lia);refine AC ?_ (R1.turn3 (g':=g) (h':=h') s.toks (·=s.heap.objs.size) (λc hc=>by subst hc;exact ⟨htop,hn1⟩) hX (λen hen f hf q=>hfrD en hen f hf q) (λ_ _=>rfl) (λc hc=>by subst hc;exact .inl htop) (λc o ho hc=>(hs.2 c hc).trans ho));intro R2 e2a;have F2:Fra C env m g h':=F1.turn3 hX (λc hc=>by subst hc;exact htop) hLD (λc v hc q=>by subst hc;rw[hDobj] at q;injection q with q;injection q with q1 q2 q3;cases q3) e2a;refine qaj (qex (ks:=[]) (vs:=[]) (us:=[]) rfl (rfl:RVs C.W g h' [] []) l1 (r1.mono e2a hX vs (.inl λc hc=>by subst hc;exact htop) _)) ?_;intro ws1 w1 w2 w3;refine Aa (qfi hy hb F2 (λv2 rv2=>?_) hd');refine Aa (AS (Ad ?_));refine qdf (db.at R2 rv2) ?_;intro a2 us2 eq_13_2 d2 l2 r2 q2 q2';subst eq_13_2;have hne2:s.heap.objs.size≠a2:=λq=>by
    refine Ap (q2' (q ▸ htop)) ?_;intro o ho;rw[<- q,hn1] at ho;cases ho
  have hm':h'.DictOf (Hx C.W.prog C.W.w) s.heap.objs.size ((qad [] [] ks vs).1.zip ws1):=by rw[<- w1];exact hm
  have hlm:(qad [] [] ks vs).1.length<=ks.length:=by
    have e1:=merged_length_le ([]:List (Hv×Hw)) (ks.zip us1);rw[show G3 [] (ks.zip us1)=_ from w1,CR,CR] at e1;simp only[Dk] at e1
    simp_all
  refine qi4 hne2 q2 hm' d2 (λh'' hm2 hs2=>?_) (by rw[CR,CR];grind);refine qaj (qex w2 w3 l2 r2) ?_;intro ws2 x1 x2 x3;rw[x1] at hm2;refine qa4 (Cp.mp hm') ?_;intro oD hoD _;have hX2:XOk (·=s.heap.objs.size) g h':=λc hc=>by
    subst hc;refine ⟨.inl htop,λo ws ho hd=>?_⟩;refine qa1 (hm') ?_;intro o' es ep ho' _ hd' _;rw[ho'] at ho;obtain rfl:=Sj ho;rw[hd'] at hd;cases hd
  have hk2:∀b o,h'.get? b=ER o->b≠s.heap.objs.size->h''.get? b=ER o:=λb o ho hb=>(hs2.2 b hb).trans ho
  have e3a:=Evo.adopt R2 (h':=h'') htop hn1 hk2;refine qa4 (Cp.mp hm2) ?_;intro oD' hoD' _;have hpl:plains (qad (qad [] [] ks vs).1 (qad [] [] ks vs).2 ks' vs').2=Hq:=qdg (qdg rfl hp) hp';refine AC ?_ (R2.adopt (h':=h'') s.toks htop hn1 hX2 hfrD hk2 ⟨oD',hoD'⟩ (ao:=.dstr (qad (qad [] [] ks vs).1 (qad [] [] ks vs).2 ks' vs').1 (qad (qad [] [] ks vs).1 (qad [] [] ks vs).2 ks' vs').2) hpl ⟨ws2,hm2,x2,x3.mono e3a hX2 _ (.inl λc hc=>by subst hc;exact htop) _⟩);intro R4 e4;refine hQ _ _ _ R4 ?_ ⟨_,rfl,qa3⟩;exact (((e1a.toX (X:=(·=s.heap.objs.size))).trans e2a).trans e4).toY.weak R.low (λb o ho q=>by subst q;rw[hn0] at ho;cases ho) λ_ q=>q
end
end
section
section
variable {s:Ab}
theorem qlh {kvs:List (Hv×Hw)}{v:Hw}{Q:Unit->Ab->Prop}(hm:s.heap.DictOf (Hx prog w) a kvs)(hx:x∉kvs.map (·.1))(hQ:∀h',h'.DictOf (Hx prog w) a (kvs++[(x,v)])->AI a s.heap h'->Q () { s with heap:=h',toks:=s.toks+1 }):Hs (Hu prog w) A (nsSet a x v) Q E s:=λΓ p hΓ=>by
  refine qb1 (hm) ?_;intro ne_0_0 es ep ho ne_0_4 hd hk hp hn;obtain ⟨c,dd,dt,sl⟩:=ne_0_0;obtain ⟨hc1,hc2,hc3⟩:=ne_0_4;have hd':dt=.dict es ep:=hd;obtain rfl:c=.type "dict":=hc1;obtain rfl:dd=Dt:=hc2;obtain rfl:sl=#[]:=hc3;subst hd';have hstr:∀e∈es,∃n t,e.key=.str n t:=λe he=>by
    refine qa4 (hk e he) ?_;intro k hk1 _;obtain ⟨t,ht⟩:=Value.isStrOf_shape hk1;exact ⟨k,t,ht⟩
  have hany:es.any (·.refKey)=Hr:=by
    rw[FB];intro e he;refine qkm (hstr e he) ?_;intro n t h;simp[Gs,h]
  have hnone:es.findIdx? (·.key.isStr x)=Dt:=by
    rw[Array.findIdx?_eq_none_iff];intro e he;refine qa4 (hk e he) ?_;intro k hk1 _;obtain ⟨t,ht⟩:=Value.isStrOf_shape hk1;have hmem:k∈kvs.map (·.1):=by
      obtain ⟨i,hi,rfl⟩:=EX.mp he;have hlen:es.size=kvs.length:=by rw[<- hp.length];simp
      obtain ⟨kv,hkv⟩:∃kv,kvs[i]?=ER kv:=⟨kvs[i]'(by lia),Aj _⟩
      obtain ⟨h1,_⟩:=hp.get? (e:=es[i]) (by simp[hi]) (k:=kv.1) (v:=kv.2) hkv;have:k=kv.1:=(Hx prog w).inj _ _ _ hk1 h1;subst this;exact Bg.mpr ⟨kv,List.mem_iff_getElem?.mpr ⟨i,hkv⟩,rfl⟩
    rw[ht];show (k==x)=Hr;exact beq_eq_false_iff_ne.mpr λq=>hx (q ▸ hmem)
  simp only[nsSet,strHash,Sem.wp_bind',Sem.wp_cmd_ask,Sem.wp_pure',Sem.wp_cmd_mkText];rw[Sem.wp_loadPart_of (Hu prog w) Γ _ p { s with toks:=s.toks+1 } _ ho];simp only[aRefKeyMayBeTheName_eq,FM,hany,D7,Bj,if_false,Sem.wp_cmd_updatePart];refine ⟨by rw[ho];rfl,hQ _ ?_ (Bb ..)⟩;refine ⟨_,_,ep+1,Be _ ho (by simp only[FN,ED,hnone];rfl),by simp only[FN,ED,hnone];exact ⟨rfl,rfl,rfl⟩,by simp only[FN,ED,hnone];rfl,?_,?_,?_⟩
  . exact hk.push (k:=x) (key:=.str x s.toks) (by show (x==x)=Hq;simp) _
  . have:=hp.append (knd:=Hx prog w) (k:=x) (key:=.str x s.toks) (by show (x==x)=Hq;simp) (hashStr w x) v;rw[Dp];exact this
  . rw[AT,CM];refine ⟨hn,by simp,?_⟩;intro a' ha b hb;simp only[Bp,List.map_nil,AE] at hb;subst hb;exact λe=>hx (e ▸ ha)
theorem qqg {d:Ht}(f:Hv×Hw->PUnit->Sem (ForInStep PUnit))(hf:∀kv u,f kv u=(do nsSet d kv.1 kv.2;pure (.yield Ck))):∀(l:List (Hv×Hw)) {kvs:List (Hv×Hw)} {s:Ab} {Q:PUnit->Ab->Prop},s.heap.DictOf (Hx prog w) d kvs->((kvs++l).map (·.1)).Nodup ->
    (∀h' tk,h'.DictOf (Hx prog w) d (kvs++l)->AI d s.heap h'->Q ⟨⟩ { s with heap:=h',toks:=tk })->Hs (Hu prog w) A (forIn l Ck f) Q E s
  | [],kvs,s,Q,hm,hn,hQ=>by
    rw[C5];exact Ad (hQ s.heap s.toks (by rw[AO];exact hm) (AI.refl _ _))
  | (x,v)::l,kvs,s,Q,hm,hn,hQ=>by
    rw[Cg,hf];have hx:x∉kvs.map (·.1):=λq=>by
      rw[AT,Bp,CM] at hn;exact hn.2.2 x q x Ac rfl
    refine Aa (Aa (qlh hm hx λh' hm' hs'=>Ad ?_));refine qqg f hf l hm' (by simpa using hn) λh'' tk hm'' hs''=>hQ h'' tk (by simpa using hm'') (hs'.trans hs'')
end
def BindX (W:Wd) (fd:BV) (args:List AV) (kn:List Hv) (kv:List AV) (xs:List Hv) (vs:List AV):Prop:=
  ∀(A:BJ) (fr:List HA) (g:Ht->Own) (σ:List AObj) (s:Ab) (us ks:List Hw),Rep W fr g σ s->RVs W g s.heap args us->RVs W g s.heap kv ks->∀(Q:List (Hv×Hw)->Ab->Prop) (E:Hw->Ab->Prop),
    (∀ws g' s',Rep W fr g' (σ++[.dstr kn kv]) s'->Evo W noX noY g s.heap g' s'.heap->RVs W g' s'.heap (vs++[.loc σ.length]) ws->Q (xs.zip ws) s')->Hs (Hu W.prog W.w) A (DF fd ⟨us,kn.zip ks⟩) Q E s
theorem BindX.of {fd:BV}{T:Ht}{items:Array Hw}(hd:fd.defaults=.ref T)(ho:W.s1.heap.get? T=ER o)(ht:¬W.tab T)(hs:o.data=.seq items n)(hnd:kn.Nodup)(hl:kn.length=kv.length)(hp:plains kv=Hq)(h:∀us ks:List Hw,us.length=args.length->ks.length=kn.length->∃(k:Option (Array Hw)->Sem (List (Hv×Hw))) (ws:List Hw),DF fd ⟨us,kn.zip ks⟩=G9 fd.defaults >>= k /\
      k (ER items)=(do let d <- alloc { cls:=.type "dict",data:=.dict #[] };forIn (kn.zip ks) Ck (λkv _=>do nsSet d kv.1 kv.2;pure (.yield Ck));pure (xs.zip (ws++[.ref d])))/\∀(g:Ht->Own) (h:Heap),RVs W g h args us->RVs W g h vs ws):
    BindX W fd args kn kv xs vs:=λA fr g σ s us ks R ru rk Q E hQ=>by
  have hlk:ks.length=kn.length:=by rw[rk.length,hl]
  refine qa2 (h us ks ru.length hlk) ?_;intro k ws h1 h2 h3;rw[h1,hd];refine Aa (C8 (R.base T o ho ht) hs ?_);rw[h2];refine Aa (GY ?_);have htop:=R.top;have hn0:s.heap.get? s.heap.objs.size=Dt:=qag _;refine AC ?_ (R.push { cls:=.type "dict",data:=.dict #[] } .other rfl (.inr rfl));intro R1 e1a;have hgo:qbw g s.heap.objs.size .other=g:=by
    funext c
    by_cases hc:c=s.heap.objs.size
    . subst hc;rw[qa3,htop]
    . exact qa5 hc
  rw[hgo] at R1 e1a;have hn1:=R.new1 hn0;have hDobj:(s.heap.push { cls:=.type "dict",data:=.dict #[] }).get? s.heap.objs.size=ER { cls:=.type "dict",data:=.dict #[] }:=Al _ rfl;have hD:(s.heap.push { cls:=.type "dict",data:=.dict #[] }).DictOf (Hx W.prog W.w) s.heap.objs.size []:=⟨_,#[],0,hDobj,⟨rfl,rfl,rfl⟩,rfl,λe he=>absurd he (by simp),.nil,by simp⟩
  have hX:XOk (·=s.heap.objs.size) g (s.heap.push { cls:=.type "dict",data:=.dict #[] }):=λc hc=>by
    subst hc;exact ⟨.inl htop,λo ws ho hd=>by rw[hDobj] at ho;obtain rfl:=Sj ho;cases hd⟩
  have hfrD:∀en∈fr,∀f,en.frame=ER f->f≠s.heap.objs.size:=λen hen f hf q=>by
    refine qdp (R.frs en hen) ?_;intro f' o es ep h3 h4 _;rw[hf] at h3;obtain rfl:=Sj h3;rw[q,hn0] at h4;cases h4
  refine Aa (qqg _ (λ_ _=>rfl) (kn.zip ks) hD ?_ λh' tk hm hs'=>?_)
  . rw[Dh,<- List.unzip_fst,List.unzip_zip_left (by simp_all)];exact hnd
  rw[Dh] at hm;have hk2:∀b o,(s.heap.push { cls:=.type "dict",data:=.dict #[] }).get? b=ER o->b≠s.heap.objs.size->h'.get? b=ER o:=λb o ho hb=>(hs'.2 b hb).trans ho
  have e3a:=Evo.adopt R1 (h':=h') htop hn1 hk2;refine qa4 (Cp.mp hm) ?_;intro oD' hoD' _;refine AC ?_ (R1.adopt (h':=h') tk htop hn1 hX hfrD hk2 ⟨oD',hoD'⟩ (ao:=.dstr kn kv) hp ⟨ks,hm,hlk.symm,(rk.up e1a).mono e3a hX _ (.inl λc hc=>by subst hc;exact htop) _⟩);intro R4 e4;have e5:Evo W noX noY g s.heap (qbw g s.heap.objs.size (.loc σ.length)) h':=((e1a.toX (X:=(·=s.heap.objs.size))).trans e4).weak R.low (λb o ho q=>by subst q;rw[hn0] at ho;cases ho) λ_ q=>q
  exact Ad (hQ _ _ _ R4 e5 (((h3 _ _ ru).up e5).append ⟨_,[],rfl,⟨_,rfl,qa3⟩,rfl⟩))
section
end
end
section
noncomputable def qem {α:Type} (lt:Nat->Nat->Bool):KasT α->α
  | .ret a=>a
  | .ask i j k=>qem lt (k (lt i j))
theorem qcm {β:Type}{lt:Nat->Nat->Bool}{f:α->KasT β}:∀(t:KasT α),qem lt (t.bind f)=qem lt (f (qem lt t))
  | .ret _=>rfl
  | .ask i j k=>qcm (k (lt i j))
structure SWO (lt:Nat->Nat->Bool):Prop where
  asymm:∀{a b},lt a b=Hq->lt b a=Hr
  tr:∀{a b c},lt a b=Hq->lt b c=Hq->lt a c=Hq
  ntr:∀{a b c},lt a b=Hr->lt b c=Hr->lt a c=Hr
section
variable {lt:Nat->Nat->Bool}
theorem SWO.lt_of_lt_of_le (S:SWO lt){a c:Nat}(h1:lt a b=Hq)(h2:lt c b=Hr):lt a c=Hq:=by
  cases h:lt a c with
  | true=>rfl
  | false=>rw[S.ntr h h2] at h1;cases h1
theorem SWO.lt_of_le_of_lt (S:SWO lt){a c:Nat}(h1:lt b a=Hr)(h2:lt b c=Hq):lt a c=Hq:=by
  cases h:lt a c with
  | true=>rfl
  | false=>rw[S.ntr h1 h] at h2;cases h2
theorem SWO.irr (S:SWO lt)(a:Nat):lt a a=Hr:=by
  cases h:lt a a with
  | false=>rfl
  | true=>exact (S.asymm h).symm.trans h |>.symm ▸ rfl
def Prec (lt:Nat->Nat->Bool) (a b:Nat):Prop:=lt a b=Hq\/(lt b a=Hr/\a<b)
theorem Prec.trans (S:SWO lt){a c:Nat}(h1:Prec lt a b)(h2:Prec lt b c):Prec lt a c:=by
  rcases h1 with h1 | ⟨h1,h1'⟩ <;> rcases h2 with h2 | ⟨h2,h2'⟩
  . exact .inl (S.tr h1 h2)
  . exact .inl (S.lt_of_lt_of_le h1 h2)
  . exact .inl (S.lt_of_le_of_lt h1 h2)
  . exact .inr ⟨S.ntr h2 h1,by lia⟩
noncomputable def At (p:Array Nat) (k:Nat):Nat:=p.getD k 0
theorem qge (p:Array Nat)(k:Nat):At p k=p[k]?.getD 0:=by unfold At;rw[FG]
theorem qon {p:Array Nat}(hj:j<=p.size)(k:Nat):At (BM p i j) k=if i<=k/\k<j then At p (i+j - 1 - k) else At p k:=by
  rw[qge,BM,getElem?_mirror_all hj];split <;> rw[qge]
structure Pre (p:Array Nat) (n N:Nat):Prop where
  size:p.size=N
  perm:p.Perm (Ae N).toArray
  fix:∀k,n<=k->k<N->At p k=k
  low:∀k,k<n->At p k<n
theorem Pre.more {p:Array Nat}(P:Pre p n N)(h:n<=n')(h':n'<=N):Pre p n' N:=
  ⟨P.size,P.perm,λk h1 h2=>P.fix k (by lia) h2,λk hk=>by
    by_cases q:k<n
    . have:=P.low k q;lia
    . rw[P.fix k (by simp_all) (by lia)];exact hk⟩
theorem qek {p:Array Nat}{k':Nat}(hj:j<=p.size)(h1:i<=k)(h2:k<j)(h:k+k'+1=i+j):At (BM p i j) k=At p k':=by
  rw[qon hj,if_pos ⟨h1,h2⟩,<- h];exact congrArg (At p) (Nat.add_sub_cancel_left (n:=k) (m:=k'))
theorem qf2 {p:Array Nat}(hj:j<=p.size)(h:¬(i<=k/\k<j)):At (BM p i j) k=At p k:=by
  rw[qon hj,if_neg h]
theorem Pre.rev {p:Array Nat}(P:Pre p n N)(hj:j<=n)(hn:n<=N):Pre (BM p i j) n N:=by
  have hs:j<=p.size:=P.size ▸ Af hj hn;refine ⟨(kas_rev_size i j).trans P.size,(Fl _ _ _ _).trans P.perm,λk h1 h2=>(qf2 hs λh=>absurd (Ag h.2 hj) (A9.mpr h1)).trans (P.fix k h1 h2),λk hk=>?_⟩;by_cases h:i<=k/\k<j
  . rw[qon hs,if_pos h];exact P.low _ (Ag (show i+j - 1 - k<j by have:=h.1;omega) hj)
  . rw[qf2 hs h];exact P.low k hk
def Asc (lt:Nat->Nat->Bool) (p:Array Nat) (n:Nat):Prop:=∀i j,i<j->j<n->Prec lt (At p i) (At p j)
def Dsc (lt:Nat->Nat->Bool) (p:Array Nat) (n:Nat):Prop:=∀i j,i<j->j<n->Prec lt (At p j) (At p i)
theorem qqa {p:Array Nat}(hs:n<=p.size)(hij:i<j)(hj:j<n):∃i' j',j'<i'/\i'<n/\At (BM p 0 n) i=At p i'/\At (BM p 0 n) j=At p j':=by
  refine Ap (Nat.exists_eq_add_of_lt hij) ?_;intro a eq_0_1;subst eq_0_1;refine Ap (Nat.exists_eq_add_of_lt hj) ?_;intro b eq_1_1;subst eq_1_1;exact ⟨a+1+b,b,by simp,by lia,qek hs (AJ _) (Bc hij hj) (by lia),qek hs (AJ _) hj (by simp)⟩
theorem Dsc.rev {p:Array Nat}(P:Pre p n N)(hn:n<=N)(hd:Dsc lt p n):Asc lt (BM p 0 n) n:=λi j hij hj=>by
  refine qaz (qqa (P.size ▸ hn) hij hj) ?_;intro i' j' h1 h2 e1 e2;rw[e1,e2];exact hd j' i' h1 h2
theorem Asc.rev {p:Array Nat}(P:Pre p n N)(hn:n<=N)(hd:Asc lt p n):Dsc lt (BM p 0 n) n:=λi j hij hj=>by
  refine qaz (qqa (P.size ▸ hn) hij hj) ?_;intro i' j' h1 h2 e1 e2;rw[e1,e2];exact hd j' i' h1 h2
theorem Iea (S:SWO lt){p:Array Nat}(P:Pre p n N)(h:Asc lt p n)(hn:n<N)(h1:1<=n)(hl:lt (At p n) (At p (n - 1))=Hr):Asc lt p (n+1):=by
  have hnn:At p n=n:=P.fix n (Aq _) hn;match n,h1 with
  | m+1,_=>
    have last:Prec lt (At p m) (At p (m+1)):=.inr ⟨hl,by rw[hnn];exact P.low _ (Cw m)⟩;intro i j hij hj;rcases B7 j (m+1) with q | q
    . exact h i j hij q
    . obtain rfl:=Ci (AM hj) q;rcases B7 i m with q' | q'
      . exact (h i m q' (Cw m)).trans S last
      . obtain rfl:=Ci (AM hij) q';exact last
theorem qk5 (S:SWO lt){p:Array Nat}:∀(f n:Nat),Pre p n N->n+f=N->1<=n->Asc lt p n->∃n',qem lt (kas_asc p f n)=n'/\n<=n'/\n'<=N/\Asc lt p n'/\(n'=N\/lt (At p n') (At p (n' - 1))=Hq)
  | 0,n,P,hf,h1,h=>⟨n,rfl,Aq _,Bn hf,h,.inl hf⟩
  | f+1,n,P,hf,h1,h=>by
    have hn:n+1+f=N:=(CG n f).trans hf;have hN:n<N:=hn ▸ A5 (n+1) f;show ∃n',qem lt (if lt (At p n) (At p (n - 1))=Hq then DG n else kas_asc p f (n+1))=n'/\_;cases hl:lt (At p n) (At p (n - 1)) with
    | true=>exact ⟨n,rfl,Aq _,Bm hN,h,.inr hl⟩
    | false=>
      refine qaj (qk5 S f (n+1) (P.more (Dn n) hN) hn (Cr 1 n) (Iea S P h hN h1 hl)) ?_;intro n' e1 e2 r;exact ⟨n',e1,Bm e2,r⟩
structure DInv (lt:Nat->Nat->Bool) (p:Array Nat) (b q:Nat):Prop where
  big:∀i,i<b->lt (At p (b+q)) (At p i)=Hq
  dsc:Dsc lt p b
  eqv:∀i,b<=i->i<=b+q->lt (At p i) (At p (b+q))=Hr/\lt (At p (b+q)) (At p i)=Hr
  asc:∀i j,b<=i->i<j->j<=b+q->At p i<At p j
theorem DInv.turn (S:SWO lt){p:Array Nat}{q:Nat}(D:DInv lt p b q)(P:Pre p (b+(q+1)) N)(hn:b+(q+1)<=N):∃p',(if q > 0 then BM p b (b+(q+1)) else p)=p'/\Pre p' (b+(q+1)) N/\Dsc lt p' (b+(q+1))/\(∀i,i<b+(q+1)->lt (At p' i) (At p (b+q))=Hr):=by
  have hs:b+(q+1)<=p.size:=P.size ▸ hn;have hb:∀i,i<b+(q+1)->lt (At p i) (At p (b+q))=Hr:=λi hi=>(B7 i b).elim (λh=>S.asymm (D.big i h)) λh=>(D.eqv i h (AM hi)).1
  by_cases hq:q > 0
  . rw[if_pos hq];have mir:∀k,b<=k->k<b+(q+1)->∃k',b<=k'/\k'<=b+q/\k+k'=b+(b+q)/\At (BM p b (b+(q+1))) k=At p k':=λk h1 h2=>by
      have h3:k<=b+q:=AM h2;have h4:k+(b+(b+q) - k)=b+(b+q):=CU (Af h3 (Cr _ _));generalize b+(b+q) - k=k' at h4;exact ⟨k',by lia,by lia,h4,qek hs h1 h2 (by rw[h4];rfl)⟩
    have low:∀k,k<b->At (BM p b (b+(q+1))) k=At p k:=λk h=>qf2 hs λh'=>absurd h (A9.mpr h'.1)
    refine ⟨_,rfl,P.rev (Aq _) hn,λi j hij hj=>?_,λi hi=>?_⟩
    . rcases B7 j b with q1 | q1
      . rw[low j q1,low i (Bc hij q1)];exact D.dsc i j hij q1
      . refine qbl (mir j q1 hj) ?_;intro j' c1 c2 c3 c4;rw[c4];rcases B7 i b with q2 | q2
        . rw[low i q2];exact .inl (S.lt_of_le_of_lt (D.eqv j' c1 c2).2 (D.big i q2))
        . refine qbl (mir i q2 (Bc hij hj)) ?_;intro i' a1 a2 a3 a4;rw[a4];exact .inr ⟨S.ntr (D.eqv i' a1 a2).1 (D.eqv j' c1 c2).2,D.asc j' i' c1 (by lia) a2⟩
    . rcases B7 i b with q1 | q1
      . rw[low i q1];exact hb i hi
      . refine qbl (mir i q1 hi) ?_;intro i' a1 a2 a3 a4;rw[a4];exact hb i' (Dq a2)
  . rw[if_neg hq];refine ⟨p,rfl,P,λi j hij hj=>?_,hb⟩;obtain rfl:q=0:=Nat.eq_zero_of_not_pos hq;rcases B7 j b with q1 | q1
    . exact D.dsc i j hij q1
    . obtain rfl:=Ci (AM hj) q1;exact .inl (D.big i hij)
theorem DInv.new (S:SWO lt){p:Array Nat}(hd:Dsc lt p n)(hb:∀i,i<n->lt (At p n) (At p i)=Hq):DInv lt p n 0:=
  ⟨hb,hd,λi h1 h2=>Ci h2 h1 ▸ ⟨S.irr _,S.irr _⟩,λi j h1 h2 h3=>absurd (Ag h2 h3) (A9.mpr h1)⟩
theorem qhb (S:SWO lt):∀(f b q:Nat) (p:Array Nat),Pre p (b+(q+1)) N->b+(q+1)+f=N->DInv lt p b q->∃p' b' q',qem lt (Co f p (b+(q+1)) q)=(p',b'+(q'+1),q')/\b'+(q'+1)<=N/\Pre p' (b'+(q'+1)) N/\DInv lt p' b' q'
  | 0,b,q,p,P,hf,D=>⟨p,b,q,rfl,Bn hf,P,D⟩
  | f+1,b,q,p,P,hf,D=>by
    have hn:b+(q+1)+1+f=N:=(CG _ f).trans hf;have hN:b+(q+1)<N:=hn ▸ A5 _ f;have hnn:At p (b+(q+1))=b+(q+1):=P.fix _ (Aq _) hN;show ∃p' b' q',qem lt (if lt (At p (b+(q+1))) (At p (b+q))=Hq then (if q > 0 then Co f (BM p (b+(q+1) - (q+1)) (b+(q+1))) (b+(q+1)+1) 0 else Co f p (b+(q+1)+1) 0)
      else .ask (At p (b+q)) (At p (b+(q+1))) λd=>if d=Hq then .ret (p,b+(q+1),q) else Co f p (b+(q+1)+1) (q+1))=(p',b'+(q'+1),q')/\_
    cases hl:lt (At p (b+(q+1))) (At p (b+q)) with
    | true=>
      refine qbl (D.turn S P (Bm hN)) ?_;intro p' hp' P' hd hb;have e:(if q > 0 then Co f (BM p (b+(q+1) - (q+1)) (b+(q+1))) (b+(q+1)+1) 0 else Co f p (b+(q+1)+1) 0)=Co f p' (b+(q+1)+1) 0:=by
        rw[<- hp',Nat.add_sub_cancel];split <;> rfl
      rw[if_pos rfl,e];have hn':At p' (b+(q+1))=b+(q+1):=P'.fix _ (Aq _) hN;exact qhb S f (b+(q+1)) 0 p' (P'.more (Dn _) hN) hn (DInv.new S hd λi hi=>by
        rw[hn',<- hnn];exact S.lt_of_lt_of_le hl (hb i hi))
    | false=>
      show ∃p' b' q',qem lt (if lt (At p (b+q)) (At p (b+(q+1)))=Hq then DG (p,b+(q+1),q) else Co f p (b+(q+1)+1) (q+1))=(p',b'+(q'+1),q')/\_;cases hd:lt (At p (b+q)) (At p (b+(q+1))) with
      | true=>exact ⟨p,b,q,rfl,Bm hN,P,D⟩
      | false=>
        refine qhb S f b (q+1) p (P.more (Dn _) hN) hn ⟨λi hi=>S.lt_of_le_of_lt hd (D.big i hi),D.dsc,λi h1 h2=>?_,λi j h1 h2 h3=>?_⟩
        . rcases B7 i (b+(q+1)) with q' | q'
          . have:=D.eqv i h1 (AM q');exact ⟨S.ntr this.1 hd,S.ntr hl this.2⟩
          . obtain rfl:=Ci h2 q';exact ⟨S.irr _,S.irr _⟩
        . rcases B7 j (b+(q+1)) with q' | q'
          . exact D.asc i j h1 h2 (AM q')
          . obtain rfl:=Ci h3 q';rw[hnn];exact P.low i h2
theorem qmd (S:SWO lt){p:Array Nat}(P:Pre p n N)(h1:1<=n)(hn:n<=N)(hd:Dsc lt p n):∃m p',qem lt (Dl n N p)=(m,p')/\1<=m/\m<=N/\Pre p' m N/\Asc lt p' m:=by
  have ha:Asc lt (BM p 0 n) n:=Dsc.rev P hn hd;refine qew (qk5 S (N - n) n (P.rev (i:=0) (Aq n) hn) (CU hn) h1 ha) ?_;intro n' e1 e2 e3 e4 _;refine ⟨n',BM p 0 n,?_,Af h1 e2,e3,(P.rev (i:=0) (Aq n) hn).more e2 e3,e4⟩;unfold Dl;rw[qcm,e1];rfl
theorem qf5 (S:SWO lt){p:Array Nat}(P:Pre p n N)(hn:n+1<=N)(D:DInv lt p n 0):∃m p',qem lt (CH n N p)=(m,p')/\1<=m/\m<=N/\Pre p' m N/\Asc lt p' m:=by
  refine qa1 (qhb S (N - (n+1)) n 0 p (P.more (Dn n) hn) (CU hn) D) ?_;intro p' b' q' h1 h3 h4 h5;refine qbl (h5.turn S h4 h3) ?_;intro p'' hp'' P'' hd _;unfold CH;rw[qcm,h1];have e:(if q' > 0 then Dl (b'+(q'+1)) N (BM p' (b'+(q'+1) - (q'+1)) (b'+(q'+1))) else Dl (b'+(q'+1)) N p')=Dl (b'+(q'+1)) N p'':=by
    rw[<- hp'',Nat.add_sub_cancel];split <;> rfl
  show ∃m p,qem lt (if q' > 0 then Dl (b'+(q'+1)) N (BM p' (b'+(q'+1) - (q'+1)) (b'+(q'+1))) else Dl (b'+(q'+1)) N p')=(m,p)/\_;rw[e];exact qmd S P'' (Af (Cr 1 q') (Cr _ _)) h3 hd
theorem qo9 (S:SWO lt){p:Array Nat}(P:Pre p 1 N)(hN:1<=N):∃m p',qem lt (kas_count N p)=(m,p')/\1<=m/\m<=N/\Pre p' m N/\Asc lt p' m:=by
  refine qew (qk5 S (N - 1) 1 P (CU hN) (Aq _) (λi j h1 h2=>absurd (Ag h1 (AM h2)) (Cf _))) ?_;intro n e1 e2 e3 e4 e5;have Pn:=P.more e2 e3;unfold kas_count;rw[qcm,e1];by_cases hn:n=N
  . rw[if_pos (by simpa using hn)];exact ⟨n,p,rfl,e2,e3,Pn,e4⟩
  . rw[if_neg (by simpa using hn)];have hl:=e5.resolve_left hn;have hN':n<N:=Nat.lt_of_le_of_ne e3 hn;have hnn:At p n=n:=Pn.fix n (Aq _) hN';have hs:n<=p.size:=by rw[P.size];exact e3
    match n,e2 with
    | 1,_=>exact qf5 S Pn hN' (DInv.new S (λi j h1 h2=>absurd (Ag h1 (AM h2)) (Cf _)) λi hi=>by
        obtain rfl:=Nat.eq_zero_of_le_zero (AM hi);exact hl)
    | m+2,e2=>
      show ∃x p',qem lt (if lt (At p 0) (At p (m+1))=Hq then DG (m+2,p) else CH (m+2) N (BM p 0 (m+2)))=(x,p')/\_;cases h0:lt (At p 0) (At p (m+1)) with
      | true=>exact ⟨m+2,p,rfl,e2,e3,Pn,e4⟩
      | false=>
        have hge:∀i,i<m+2->lt (At p i) (At p (m+1))=Hr:=λi hi=>by
          rcases Ey i with q | q
          . rw[q];exact h0
          . exact S.ntr ((e4 0 i q hi).elim S.asymm (·.1)) h0
        have P':=Pn.rev (i:=0) (Aq _) e3;have hn':At (BM p 0 (m+2)) (m+2)=m+2:=P'.fix _ (Aq _) hN';refine qf5 S P' hN' (DInv.new S (Asc.rev Pn e3 e4) λi hi=>?_);rw[hn',qek hs (AJ i) hi (k':=m+1 - i) (by grind)];rw[hnn] at hl;exact S.lt_of_lt_of_le hl (hge _ (Cv (Nat.sub_le _ _) (Cw _)))
theorem qfr (S:SWO lt){p:Array Nat}(ha:Asc lt p k):∀(f l r:Nat),l<=r->r<=k->r<=l+f->(∀i,i<l->lt (At p k) (At p i)=Hr)->(∀i,r<=i->i<k->lt (At p k) (At p i)=Hq) ->
    ∃l',qem lt (DS p k f l r)=l'/\l'<=k/\(∀i,i<l'->lt (At p k) (At p i)=Hr)/\(∀i,l'<=i->i<k->lt (At p k) (At p i)=Hq)
  | 0,l,r,h1,h2,h3,h4,h5=>⟨l,rfl,Af h1 h2,h4,λi h6 h7=>h5 i (Af h3 h6) h7⟩
  | f+1,l,r,h1,h2,h3,h4,h5=>by
    show ∃l',qem lt (if l>=r then DG l else .ask (At p k) (At p ((l+r) / 2)) λc=>if c=Hq then DS p k f l ((l+r) / 2) else DS p k f ((l+r) / 2+1) r)=l'/\_;by_cases hlr:l>=r
    . rw[if_pos hlr];exact ⟨l,rfl,Af h1 h2,h4,λi h6 h7=>h5 i (Af hlr h6) h7⟩
    . rw[if_neg hlr];have m1:l<=(l+r) / 2:=by lia
      have m2:(l+r) / 2<r:=by lia
      generalize (l+r) / 2=m at m1 m2;have hmk:=Ag m2 h2;show ∃l',qem lt (if lt (At p k) (At p m)=Hq then DS p k f l m else DS p k f (m+1) r)=l'/\_;cases hc:lt (At p k) (At p m) with
      | true=>
        refine qfr S ha f l m m1 (Bm hmk) (AM (Ag m2 h3)) h4 λi h6 h7=>?_
        rcases DL h6 with q | q
        . exact q ▸ hc
        . exact (ha m i q h7).elim (S.tr hc) λz=>S.lt_of_lt_of_le hc z.1
      | false=>
        refine qfr S ha f (m+1) r m2 h2 (by lia) (λi h6=>?_) h5;rcases DL (AM h6) with q | q
        . exact q ▸ hc
        . exact (ha i m q hmk).elim (λz=>S.ntr hc (S.asymm z)) λz=>S.ntr hc z.1
theorem qel {p:Array Nat}{l:Nat}(hk:k<p.size)(hl:l<=k)(i:Nat):At (Hp p k (k - l)) i=if i=l then At p k else if l<i/\i<=k then At p (i - 1) else At p i:=by
  rw[qge,getElem?_bubble hk (k - l) (Nat.sub_le _ _),Nat.sub_sub_self hl];split
  . rw[qge]
  . split <;> rw[qge]
theorem qir {p:Array Nat}{l:Nat}(hk:k<p.size)(hl:l<=k)(h:i<l):At (Hp p k (k - l)) i=At p i:=by
  rw[qel hk hl,if_neg (BC h),if_neg λq=>absurd q.1 (Nat.lt_asymm h)]
theorem qv0 {p:Array Nat}{l:Nat}(hk:k<p.size)(hl:l<=k)(h:k<i):At (Hp p k (k - l)) i=At p i:=by
  rw[qel hk hl,if_neg (CF (Cv hl h)),if_neg λq=>absurd q.2 (DI.mpr h)]
theorem qoe {p:Array Nat}{l:Nat}(hk:k<p.size)(hl:l<=k):At (Hp p k (k - l)) l=At p k:=by
  rw[qel hk hl,if_pos rfl]
theorem qod {p:Array Nat}{l:Nat}(hk:k<p.size)(h:l<=i)(hi:i<k):At (Hp p k (k - l)) (i+1)=At p i:=by
  rw[qel hk (Bm (Cv h hi)),if_neg (CF (Dq h)),if_pos ⟨Dq h,hi⟩];rfl
theorem qoj (S:SWO lt):∀(f:Nat) (p:Array Nat) (k:Nat),Pre p k N->k+f=N->Asc lt p k->∃p',qem lt (kas_bin f p k)=p'/\Pre p' N N/\Asc lt p' N
  | 0,p,k,P,hf,ha=>by obtain rfl:k=N:=hf;exact ⟨p,rfl,P,ha⟩
  | f+1,p,k,P,hf,ha=>by
    have hn:k+1+f=N:=(CG _ f).trans hf;have hN:k<N:=hn ▸ A5 _ f;have hkn:At p k=k:=P.fix k (Aq _) hN;have hks:k<p.size:=P.size ▸ hN;refine qbl (qfr S ha k 0 k (AJ _) (Aq _) (Bn (GE k).symm) (λi h=>absurd h (Cf _)) (λi h1 h2=>absurd h2 (A9.mpr h1))) ?_;intro l e1 e2 e3 e4;show ∃p',qem lt ((DS p k k 0 k).bind λl=>kas_bin f (Hp p k (k - l)) (k+1))=p'/\_;rw[qcm,e1];refine qoj S f (Hp p k (k - l)) (k+1) ⟨(bubble_size ..).trans P.size,(bubble_perm _ _ _).trans P.perm,λi h1 h2=>(qv0 hks e2 h1).trans (P.fix i (Bm h1) h2),λi hi=>?_⟩ hn λi j hij hj=>?_
    . rcases B7 i l with q | q
      . rw[qir hks e2 q];exact D4 (P.low i (Ag q e2))
      . rcases DL q with q | q
        . rw[<- q,qoe hks e2,hkn];exact Cw k
        . match i,q with
          | i+1,q=>rw[qod hks (AM q) (CZ hi)];exact D4 (P.low i (CZ hi))
    . have lo:∀i,i<l->Prec lt (At p i) (At p k):=λi hi=>.inr ⟨e3 i hi,by rw[hkn];exact P.low i (Ag hi e2)⟩
      rcases B7 j l with q | q
      . rw[qir hks e2 q,qir hks e2 (Bc hij q)];exact ha i j hij (Ag q e2)
      . rcases DL q with q | q
        . subst q;rw[qoe hks e2,qir hks e2 hij];exact lo i hij
        . match j,q,hj,hij with
          | j+1,q,hj,hij=>
            have q1:=AM q;have hj:=CZ hj;rw[qod hks q1 hj];rcases B7 i l with w | w
            . rw[qir hks e2 w];exact ha i j (Ag w q1) hj
            . rcases DL w with w | w
              . rw[<- w,qoe hks e2];exact .inl (e4 j q1 hj)
              . match i,w,hij with
                | i+1,w,hij=>rw[qod hks (AM w) (Bc (CZ hij) hj)];exact ha i j (CZ hij) hj
theorem qkg (S:SWO lt)(hN:1<=N):(qem lt (Fm N)).size=N/\(qem lt (Fm N)).toList.Perm (Ae N)/\(qem lt (Fm N)).toList.Pairwise (Prec lt):=by
  have P0:Pre (BS (Ae N)) 1 N:=by
    have hat:∀k,k<N->At (BS (Ae N)) k=k:=λk hk=>by rw[qge];simp[hk]
    refine ⟨by simp,Array.Perm.refl _,λk h1 h2=>hat k h2,λk hk=>?_⟩;have:k=0:=by simp_all
    subst this;rw[hat 0 (by assumption)];assumption
  refine qan (qo9 S P0 hN) ?_;intro m p e1 e2 e3 P ha;obtain ⟨p',e,P',ha'⟩:∃p',qem lt (Fm N)=p'/\Pre p' N N/\Asc lt p' N:=by
    unfold Fm;rw[qcm,e1];show ∃p',qem lt (if m<N then kas_bin (N - max m 1) p (max m 1) else DG p)=p'/\_;by_cases h:m<N
    . rw[if_pos h,show max m 1=m by simp_all];exact qoj S (N - m) p m P (by simp_all) ha
    . rw[if_neg h];have:m=N:=by lia
      subst this;exact ⟨p,rfl,P,ha⟩
  rw[e];refine ⟨P'.size,?_,?_⟩
  . have:=Array.perm_iff_toList_perm.mp P'.perm;simpa using this
  . rw[B8];intro i j hi hj hij;have hi':i<p'.size:=by simpa using hi
    have hj':j<p'.size:=by simpa using hj
    have h:=ha' i j hij (by rw[<- P'.size];exact hj');rw[qge,qge,Dg hi',Dg hj'] at h;simpa using h
end
end
section
noncomputable def InB (N:Nat) {α:Type}:KasT α->Prop
  | .ret _=>True
  | .ask i j k=>i<N/\j<N/\∀b,InB N (k b)
noncomputable def AllT {α:Type} (P:α->Prop):KasT α->Prop
  | .ret a=>P a
  | .ask _ _ k=>∀b,AllT P (k b)
theorem Ib7 {β:Type}{f:α->KasT β}{P:α->Prop}:∀{t:KasT α},InB N t->AllT P t->(∀a,P a->InB N (f a))->InB N (t.bind f)
  | .ret a,_,hp,h=>h a hp
  | .ask i j k,⟨h1,h2,h3⟩,hp,h=>⟨h1,h2,λb=>Ib7 (h3 b) (hp b) h⟩
theorem AllT.bind {β:Type}{f:α->KasT β}{P:α->Prop}{Q:β->Prop}:∀{t:KasT α},AllT P t->(∀a,P a->AllT Q (f a))->AllT Q (t.bind f)
  | .ret a,hp,h=>h a hp
  | .ask i j k,hp,h=>λb=>AllT.bind (hp b) h
theorem Ib8:∀{t:KasT α},AllT (λ_=>True) t
  | .ret _=>trivial
  | .ask _ _ k=>λb=>Ib8
def Bd (p:Array Nat) (N:Nat):Prop:=∀k,At p k<N
theorem Bd.of_mem {p:Array Nat}(hN:0<N)(h:∀x∈p,x<N):Bd p N:=λk=>by
  rw[qge];cases e:p[k]? with
  | none=>exact hN
  | some x=>exact h x (Array.mem_of_getElem? e)
theorem Bd.mem {p:Array Nat}(h:Bd p N):∀x∈p,x<N:=λx hx=>by
  obtain ⟨i,hi,rfl⟩:=EX.mp hx;have:=h i;rw[qge,Dg hi] at this;exact this
theorem Bd.perm {p q:Array Nat}(hN:0<N)(h:Bd p N)(hp:q.Perm p):Bd q N:=.of_mem hN λx hx=>h.mem x (hp.mem_iff.mp hx)
section
theorem qjl {p:Array Nat}(h:Bd p N):∀(f n:Nat),InB N (kas_asc p f n)
  | 0,n=>trivial
  | f+1,n=>⟨h n,h (n - 1),λb=>by
    show InB N (if b=Hq then DG n else kas_asc p f (n+1));split
    . trivial
    . exact qjl h f (n+1)⟩
theorem qku (hN:0<N):∀(f:Nat) (p:Array Nat) (n q:Nat),Bd p N->InB N (Co f p n q)/\AllT (λr=>Bd r.1 N) (Co f p n q)
  | 0,p,n,q,h=>⟨trivial,h⟩
  | f+1,p,n,q,h=>by
    have ih0:∀(p:Array Nat) (n q:Nat),Bd p N->InB N (Co f p n q)/\AllT (λr=>Bd r.1 N) (Co f p n q):=λp n q h=>qku hN f p n q h
    have r1:=ih0 p (n+1) 0 h;have r2:=ih0 (BM p (n - (q+1)) n) (n+1) 0 (h.perm hN (Fl _ _ _ _));have r3:=ih0 p (n+1) (q+1) h;refine ⟨⟨h n,h (n - 1),λb=>?_⟩,λb=>?_⟩
    . show InB N (if b=Hq then (if q > 0 then Co f (BM p (n - (q+1)) n) (n+1) 0 else Co f p (n+1) 0)
        else .ask (At p (n - 1)) (At p n) λd=>if d=Hq then .ret (p,n,q) else Co f p (n+1) (q+1))
      split
      . split
        . exact r2.1
        . exact r1.1
      . refine ⟨h (n - 1),h n,λd=>?_⟩;show InB N (if d=Hq then DG (p,n,q) else Co f p (n+1) (q+1));split
        . trivial
        . exact r3.1
    . show AllT (λr:Array Nat×Nat×Nat=>Bd r.1 N) (if b=Hq then (if q > 0 then Co f (BM p (n - (q+1)) n) (n+1) 0 else Co f p (n+1) 0)
        else .ask (At p (n - 1)) (At p n) λd=>if d=Hq then .ret (p,n,q) else Co f p (n+1) (q+1))
      split
      . split
        . exact r2.2
        . exact r1.2
      . intro d;show AllT (λr:Array Nat×Nat×Nat=>Bd r.1 N) (if d=Hq then DG (p,n,q) else Co f p (n+1) (q+1));split
        . exact h
        . exact r3.2
theorem qed (hN:0<N){nrem:Nat}{p:Array Nat}(h:Bd p N):InB N (Dl n nrem p)/\AllT (λr=>Bd r.2 N) (Dl n nrem p):=by
  have h':Bd (BM p 0 n) N:=h.perm hN (Fl _ _ _ _);exact ⟨Ib7 (qjl h' _ _) Ib8 λa _=>trivial,AllT.bind Ib8 λa _=>h'⟩
theorem qca (hN:0<N){nrem:Nat}{p:Array Nat}(h:Bd p N):InB N (CH n nrem p)/\AllT (λr=>Bd r.2 N) (CH n nrem p):=by
  refine AC ?_ (qku hN (nrem - (n+1)) p (n+1) 0 h);intro h1 h2;refine ⟨Ib7 h1 h2 λr hr=>?_,AllT.bind h2 λr hr=>?_⟩
  . show InB N (if r.2.2 > 0 then Dl r.2.1 nrem (BM r.1 (r.2.1 - (r.2.2+1)) r.2.1) else Dl r.2.1 nrem r.1);split
    . exact (qed hN (hr.perm hN (Fl _ _ _ _))).1
    . exact (qed hN hr).1
  . show AllT (λr:Nat×Array Nat=>Bd r.2 N) (if r.2.2 > 0 then Dl r.2.1 nrem (BM r.1 (r.2.1 - (r.2.2+1)) r.2.1) else Dl r.2.1 nrem r.1);split
    . exact (qed hN (hr.perm hN (Fl _ _ _ _))).2
    . exact (qed hN hr).2
theorem qnr (hN:0<N){nrem:Nat}{p:Array Nat}(h:Bd p N):InB N (kas_count nrem p)/\AllT (λr=>Bd r.2 N) (kas_count nrem p):=by
  have hr:∀n,Bd (BM p 0 n) N:=λn=>h.perm hN (Fl _ _ _ _)
  refine ⟨Ib7 (qjl h _ _) Ib8 λn _=>?_,AllT.bind (Ib8 (t:=kas_asc p (nrem - 1) 1)) λn _=>?_⟩
  . show InB N (if (n==nrem)=Hq then DG (n,p) else if n > 1 then .ask (At p 0) (At p (n - 1)) λc=>if c=Hq then .ret (n,p) else CH n nrem (BM p 0 n) else CH n nrem p);split
    . trivial
    . split
      . refine ⟨h 0,h (n - 1),λc=>?_⟩;show InB N (if c=Hq then DG (n,p) else CH n nrem (BM p 0 n));split
        . trivial
        . exact (qca hN (hr n)).1
      . exact (qca hN h).1
  . show AllT (λr:Nat×Array Nat=>Bd r.2 N) (if (n==nrem)=Hq then DG (n,p) else if n > 1 then .ask (At p 0) (At p (n - 1)) λc=>if c=Hq then .ret (n,p) else CH n nrem (BM p 0 n) else CH n nrem p);split
    . exact h
    . split
      . intro c;show AllT (λr:Nat×Array Nat=>Bd r.2 N) (if c=Hq then DG (n,p) else CH n nrem (BM p 0 n));split
        . exact h
        . exact (qca hN (hr n)).2
      . exact (qca hN h).2
theorem qfy {p:Array Nat}(h:Bd p N)(k:Nat):∀(f l r:Nat),InB N (DS p k f l r)
  | 0,l,r=>trivial
  | f+1,l,r=>by
    show InB N (if l>=r then DG l else .ask (At p k) (At p ((l+r) / 2)) λc=>if c=Hq then DS p k f l ((l+r) / 2) else DS p k f ((l+r) / 2+1) r);split
    . trivial
    . refine ⟨h k,h _,λc=>?_⟩;show InB N (if c=Hq then DS p k f l ((l+r) / 2) else DS p k f ((l+r) / 2+1) r);split
      . exact qfy h k f _ _
      . exact qfy h k f _ _
theorem qns (hN:0<N):∀(f:Nat) (p:Array Nat) (k:Nat),Bd p N->InB N (kas_bin f p k)
  | 0,p,k,h=>trivial
  | f+1,p,k,h=>Ib7 (qfy h k k 0 k) Ib8 λl _=>qns hN f _ _ (h.perm hN (bubble_perm _ _ _))
theorem qpi (hN:0<N):InB N (Fm N):=by
  have h0:Bd (BS (Ae N)) N:=.of_mem hN λx hx=>by simpa using hx
  refine AC ?_ (qnr (nrem:=N) hN h0);intro h1 h2;refine Ib7 h1 h2 λr hr=>?_
  show InB N (if r.1<N then kas_bin (N - max r.1 1) r.2 (max r.1 1) else DG r.2);split
  . exact qns hN _ _ _ hr
  . trivial
end
theorem qi9 {cmp:Nat->Nat->(Bool->Ab->Prop)->Ab->Prop}{lt:Nat->Nat->Bool}{s:Ab}{Q:α->Ab->Prop}(hc:∀i j C,i<N->j<N->C (lt i j) s->cmp i j C s):∀(t:KasT α),InB N t->Q (qem lt t) s->t.kasWp cmp Q s
  | .ret a,_,h=>h
  | .ask i j k,⟨h1,h2,h3⟩,h=>hc i j _ h1 h2 (qi9 hc (k (lt i j)) (h3 _) h)
def KeyOk (W:Wd) (keys:List AV) (lt:Nat->Nat->Bool):Prop:=
  ∀(g:Ht->Own) (h:Heap) (ks:List Hw),RVs W g h keys ks->2<=keys.length->∃κ:SortKind,(∀(A:BJ) (s:Ab) (Q:SortKind->Ab->Prop) (E:Hw->Ab->Prop),s.heap=h->Q κ s->Hs (Hu W.prog W.w) A (keyKind' ks.toArray) Q E s) /\
    ∀(A:BJ) (s:Ab) (i j:Nat) (C:Bool->Ab->Prop),s.heap=h->i<keys.length->j<keys.length->C (lt i j) s->kas_ask W.prog W.w A κ ks i j C s
theorem KeyOk.ints:KeyOk W (qa0 ns) (λi j=>decide (ns.getD i 0<ns.getD j 0)):=λg h ks r h2=>by
  have hI:=r.ints;have hlen:ks.length=ns.length:=by rw[r.length];simp
  have hat:∀i,i<ns.length->∃t,ks.getD i Value.none=.int (ns.getD i 0) t:=λi hi=>by
    refine qtp (r.getA (i:=i) (a:=.int ns[i]) (by simp[hi])) ?_;intro v hv t eq_3_3;subst eq_3_3;refine ⟨t,?_⟩;rw[BF,hv,BF,Aj hi];rfl
  refine ⟨oneType',λA s Q E hs hq=>?_,λA s i j C hs hi hj hq=>?_⟩
  . rw[ksk_kind (keys:=ks.toArray) (kz:=ns) (by simpa using hI) (by rw[Cb,hlen];simpa using h2)];exact Ad hq
  . have hi':i<ns.length:=by simpa using hi
    have hj':j<ns.length:=by simpa using hj
    refine Ap (hat i hi') ?_;intro t e1;refine Ap (hat j hj') ?_;intro u e2;unfold kas_ask;rw[e1,e2];exact kat_lt_int hq
end
section
noncomputable def qgy (lt:Nat->Nat->Bool) (l:List AV):List AV:=if l.length<2 then l else (qem lt (Fm l.length)).toList.map λi=>l.getD i .none
theorem RVs.pickN {vs:List Hw}(r:RVs W g h l vs):∀(is:List Nat),(∀i∈is,i<l.length)->RVs W g h (is.map λi=>l.getD i .none) (is.map λi=>vs.getD i Value.none)
  | [],_=>rfl
  | i::is,hi=>by
    have h1:i<l.length:=hi i (.head _);refine qa4 (r.getA (Aj h1)) ?_;intro v hv rv;refine ⟨_,_,rfl,?_,RVs.pickN r is λj hj=>hi j (.tail _ hj)⟩;show RV W g h (l.getD i .none) (vs.getD i Value.none);rw[BF,Aj h1,BF,hv];exact rv
theorem Priv.list {s:Ab}{vs:Array Hw}(R:Rep W fr g σ s)(ha:s.heap.get? a=Dt)(ho:h'.get? a=ER (qa8 vs n)):Priv W g h' a:=
  ⟨R.newO ha,R.new1 ha,_,ho,nds rfl rfl rfl⟩
theorem Priv.list2 {vs:Array Hw}(p:Priv W g h a)(ho:h'.get? a=ER (qa8 vs n)):Priv W g h' a:=
  ⟨p.own,p.new,_,ho,nds rfl rfl rfl⟩
section
theorem qpg {f:AV}{vf:Hw}{kS:Ht}{body:Hw->PUnit->Sem (ForInStep PUnit)}(rm:Room k fr A)(hne:a≠kS)(hb:∀(u:Hw) (s:Ab) (Q:Ab->Prop),Hs (Hu W.prog W.w) A (call vf [u]) (λv s'=>∃vs' n',s'.heap.get? kS=ER (qa8 vs' n')/\vs'.size<64/\Q { s' with heap:=s'.heap.update kS (AP (·.push v)) }) (λ_ _=>False) s ->
        Hs (Hu W.prog W.w) A (body u ⟨⟩) (λr s'=>r=.yield ⟨⟩/\Q s') E s):
    ∀(xs keys:List AV) (us:List Hw) (acc:List AV) (g:Ht->Own) (s:Ab) (Q:PUnit->Ab->Prop),Rep W fr g σ s->RVs W g s.heap xs us->RV W g s.heap f vf->Acc W g s.heap kS acc->Priv W g s.heap a->∀oa,s.heap.get? a=ER oa->keys.length=xs.length ->
      (∀(i:Nat) (x y:AV),xs[i]?=ER x->keys[i]?=ER y->Calls W noY k fr σ f [x] [] [] y σ)->plains keys=Hq->acc.length+xs.length<64 ->
      (∀g' s',Rep W fr g' σ s'->Evo W (·=kS) noY g s.heap g' s'.heap->Acc W g' s'.heap kS (acc++keys)->Priv W g' s'.heap a->s'.heap.get? a=ER oa->Q ⟨⟩ s') ->
      Hs (Hu W.prog W.w) A (forIn us Ck body) Q E s:=by
  intro xs;induction xs with
  | nil=>
    intro keys us acc g s Q R ru rf ac pa oa ho hl hc hp hz hQ;obtain rfl:us=[]:=ru;have:keys=[]:=List.length_eq_zero_iff.mp hl;subst this;rw[AO] at hQ;rw[C5];exact Ad (hQ g s R Evo.refl ac pa ho)
  | cons x xs ih=>
    intro keys us acc g s Q R ru rf ac pa oa ho hl hc hp hz hQ;obtain ⟨y,keys,rfl⟩:=List.exists_cons_of_length_eq_add_one hl;refine qa2 (ru) ?_;intro u us' eq_1_2 ru1 ru2;subst eq_1_2;rw[Cg];have hp':(plain y&&plains keys)=Hq:=hp;rw[AH] at hp';refine qcs (ac.obj) ?_;intro vs n hk hkr;have hvs:vs.size=acc.length:=by rw[<- Az,hkr.length]
    simp only[Bu] at hz hl;refine Aa (AD (hb u s (λs'=>Hs (Hu W.prog W.w) A (forIn us' Ck body) Q E s') (hc 0 x y rfl rfl A g s vf [u] [] rm R rf ⟨u,[],rfl,ru1,rfl⟩ rfl _ _ λv g1 s1a R1 e1a rv=>?_)) (λr s' hr=>by obtain ⟨rfl,hr⟩:=hr;exact hr) λ_ _ e=>e);have ac1:=ac.up e1a;refine qcs (ac1.obj) ?_;intro vs1 n1 hk1 hkr1;have hvs1:vs1.size=acc.length:=by rw[<- Az,hkr1.length]
    refine ⟨vs1,n1,hk1,by lia,?_⟩;obtain ⟨ho1,pa1⟩:=Iap e1a pa ho;have s1:=Bb s1a.heap kS (AP (·.push v));have hX:∀b,b=kS->Priv W g1 s1a.heap b:=λb q=>q ▸ ac1.priv
    obtain ⟨R2,e2a⟩:=R1.turn2 (g':=g1) (h':=s1a.heap.update kS (AP (·.push v))) s1a.toks (·=kS) hX (λ_ _ _ _=>rfl) (λb q=>.inl (q ▸ ac1.priv.own)) (λb q=>.inl (R1.newO q)) (λb o q hb=>(s1.2 b hb).trans q);have hnew:=GQ (c := "list") hk1 (·.push v);have ac2:Acc W g1 (s1a.heap.update kS (AP (·.push v))) kS (acc++[y]):=⟨ac1.priv.list2 hnew,⟨_,_,hnew,by
      rw[Dp];exact (hkr1.mono e2a (Priv.xok hX) acc (.inr ac.pl) _).append ⟨v,[],rfl,rv.mono e2a (Priv.xok hX) y (.inr hp'.1) _,rfl⟩⟩,by rw[qai,ac.pl];show (Hq&&(plain y&&Hq))=Hq;rw[hp'.1];rfl⟩
    have ho2:(s1a.heap.update kS (AP (·.push v))).get? a=ER oa:=(s1.2 a hne).trans ho1;have pa2:Priv W g1 (s1a.heap.update kS (AP (·.push v))) a:=by
      refine qa4 (pa1.obj) ?_;intro o' ho' q;rw[ho1] at ho';obtain rfl:=Sj ho';exact ⟨pa1.own,pa1.new,oa,ho2,q⟩
    have hXo:∀b,b=kS->g1 b=.other:=λb q=>q ▸ ac1.priv.own
    refine ih keys us' (acc++[y]) g1 _ Q R2 ((ru2.up e1a).mono e2a (Priv.xok hX) xs (.inl hXo) _) ((rf.up e1a).mono e2a (Priv.xok hX) f (.inl hXo) _) ac2 pa2 oa ho2 (by simp_all)
      (λi x' y' h1 h2=>hc (i+1) x' y' (by simpa using h1) (by simpa using h2)) hp'.2 (by rw[An,Ba];lia) λg' s' R' e' ac' pa' ho'=>hQ g' s' R' ((e1a.toX.trans e2a).trans e') (by simpa using ac') pa' ho'
theorem qmk {s:Ab}{kS:Ht}{st:SortSt}{e e1:Nat}{ks:Array Hw}{out:List Hw}{P:PySem.Fin->Ab->Prop}(hne:a≠kS)(hk:s.heap.get? kS=ER (qa8 ks e))(ha:s.heap.get? a=ER (qa8 #[] e1))(hout:(arrOf st).map (·.2)=BS out)(hz:out.length<64)(hkz:ks.size<64)(hf:failedOf st=Dt)(h:P (.done (.ret .none)) { s with heap:=(s.heap.update kS (AP λ_=>(#[]:Array Hw))).update a (AP λ_=>BS out) }):Hs (Hu prog w) A (ksk_tail a Hr e1 (.ref kS) st) P E s:=by
  have s1:=Bb s.heap kS (AP λ_=>(#[]:Array Hw));have ha':(s.heap.update kS (AP λ_=>(#[]:Array Hw))).get? a=ER (qa8 #[] e1):=(s1.2 a hne).trans ha;unfold ksk_tail;try dsimp only
  rw[hout];refine Aa (Gm hk rfl ?_ (by rw[AB];lia) (AJ _));refine Aa (wpAny_letGo ?_);refine Aa (seqEpoch_at ha' rfl ?_);refine Aa (Gm ha' rfl ?_ (AJ _) (Af (Bn (by show (BS out).size=out.length;exact Cb ..)) (by rw[AB];lia)));rw[hf];simp only[bne_self_eq_false,Bj,if_false];exact Ad h
theorem qhn {f:AV}{keys:List AV}{lt:Nat->Nat->Bool}{s:Ab}{q:Ht}(rm:Room (k+2) fr A)(hL:Lv σ v l)(R:Rep W fr g σ s)(rl:RV W g s.heap v (.ref la))(rf:RV W g s.heap f (.ref q))(h64:l.length<64)(hl:keys.length=l.length)(hc:∀(i:Nat) (x y:AV),l[i]?=ER x->keys[i]?=ER y->Calls W noY k fr σ f [x] [] [] y σ)(hp:plains keys=Hq)(hpl:plains l=Hq)(hK:KeyOk W keys lt)(S:SWO lt)(hQ:∀v' g' s',Rep W fr g' σ s'->Evo W noX noY g s.heap g' s'.heap->RV W g' s'.heap (.lst (qgy lt l)) v'->Q v' s'):Hs (Hu W.prog W.w) A (call (.builtin "sorted") [.ref la] [(Bh "key",.ref q)]) Q E s:=by
  refine qa1 (hL.at R rl) ?_;intro la' vsA nl e0 hlo hlr _;cases e0
  obtain ⟨vs,rfl⟩:∃vs:List Hw,vsA=vs.toArray:=⟨vsA.toList,by rfl⟩
  have hlr:RVs W g s.heap l vs:=by simpa using hlr
  have hvl:vs.length=l.length:=hlr.length;have rm2:Room k fr A.in1.in1:=rm.in1.in1;refine call_function_entry_kw kind_sorted plain_sorted entry_sorted (ksk_s1 _ _) ?_;unfold Ax.«sorted»;refine Aa (m:=checkCount "sorted" 1 1 _) (Ad ?_);refine Aa (collect_list (qah hlo) ?_ (by rw[AB];lia));refine Aa (wpAny_newList ?_ (by rw[AB];lia));have hsz:((s.heap.push (Fy "list" #[] 0)).update s.heap.objs.size (AP (·++vs.toArray))).objs.size=s.heap.objs.size+1:=by
    rw[Heap.size_update,size_push']
  have hoL:(((s.heap.push (Fy "list" #[] 0)).update s.heap.objs.size (AP (·++vs.toArray))).push (Fy "list" vs.toArray 0)).get? (s.heap.objs.size+1)=ER (Fy "list" vs.toArray 0):=by
    rw[<- hsz];exact Al _ rfl
  have keep:∀b o,s.heap.get? b=ER o->(((s.heap.push (Fy "list" #[] 0)).update s.heap.objs.size (AP (·++vs.toArray))).push (Fy "list" vs.toArray 0)).get? b=ER o:=λb o q=>by
    have hlt:b<s.heap.objs.size:=EQ q;rw[Heap.get?_push_ne _ _ _ (by rw[hsz];exact BC (D4 hlt)),Ei _ _ _ _ (BC hlt),Heap.get?_push_ne _ _ _ (BC hlt)];exact q
  have hsz0:(((s.heap.push (Fy "list" #[] 0)).update s.heap.objs.size (AP (·++vs.toArray))).push (Fy "list" vs.toArray 0)).objs.size=s.heap.objs.size+2:=by rw[size_push',hsz]
  show Hs _ _ _ _ _ { s with heap:=((s.heap.push (Fy "list" #[] 0)).update s.heap.objs.size (AP (·++vs.toArray))).push (Fy "list" vs.toArray 0) };rw[hsz];generalize ((s.heap.push (Fy "list" #[] 0)).update s.heap.objs.size (AP (·++vs.toArray))).push (Fy "list" vs.toArray 0)=H0 at hoL keep hsz0 ⊢;refine Aa (AK (wpAny_call_entry_kw slot_list_sort ⟨_,hoL,rfl⟩ entry_list_sort ?body (ksk_l1 _ _)));case body=>
    show Hs (Hu W.prog W.w) A.in1.in1 (Ax.«list.sort» ⟨[.ref (s.heap.objs.size+1)],[(Bh "key",.ref q)]⟩) _ _ _;rw[ksk_t1];have hna:s.heap.get? (s.heap.objs.size+1)=Dt:=BW (Dn _);have s1:=Bb H0 (s.heap.objs.size+1) (AP λ_=>(#[]:Array Hw));obtain ⟨e1,ho1⟩:∃e1,(H0.update (s.heap.objs.size+1) (AP λ_=>(#[]:Array Hw))).get? (s.heap.objs.size+1)=ER (Fy "list" #[] e1):=⟨_,GQ hoL λ_=>#[]⟩
    have keep1:∀b o,s.heap.get? b=ER o->(H0.update (s.heap.objs.size+1) (AP λ_=>(#[]:Array Hw))).get? b=ER o:=λb o hb=>(s1.2 b (λq=>by rw[q,hna] at hb;cases hb)).trans (keep b o hb)
    have hsz1:(H0.update (s.heap.objs.size+1) (AP λ_=>(#[]:Array Hw))).objs.size=s.heap.objs.size+2:=by rw[Heap.size_update,hsz0]
    unfold ksk_tree;refine Aa (listItems_at hoL rfl ?_);refine Aa (Gm hoL rfl ?_ (by rw[Cb,AB];lia) (AJ _));refine Aa (seqEpoch_at ho1 rfl ?_);refine Aa (wpAny_newTuple ?_ (by show vs.length<=_;rw[AB];lia));refine Aa (wpAny_newList ?_ (AJ _));refine AK ?_;have hsz2:((H0.update (s.heap.objs.size+1) (AP λ_=>(#[]:Array Hw))).push { cls:=.type "tuple",data:=.seq vs.toArray.toList.toArray }).objs.size=s.heap.objs.size+3:=by rw[size_push',hsz1]
    have hkS:(((H0.update (s.heap.objs.size+1) (AP λ_=>(#[]:Array Hw))).push { cls:=.type "tuple",data:=.seq vs.toArray.toList.toArray }).push { cls:=.type "list",data:=.seq (BS []) }).get? (s.heap.objs.size+3)=ER (qa8 #[] 0):=by
      rw[<- hsz2];exact Al _ rfl
    have keep3:∀b o,s.heap.get? b=ER o->(((H0.update (s.heap.objs.size+1) (AP λ_=>(#[]:Array Hw))).push { cls:=.type "tuple",data:=.seq vs.toArray.toList.toArray }).push { cls:=.type "list",data:=.seq (BS []) }).get? b=ER o:=λb o hb=>Am _ (Am _ (keep1 b o hb))
    have ho3:(((H0.update (s.heap.objs.size+1) (AP λ_=>(#[]:Array Hw))).push { cls:=.type "tuple",data:=.seq vs.toArray.toList.toArray }).push { cls:=.type "list",data:=.seq (BS []) }).get? (s.heap.objs.size+1)=ER (qa8 #[] e1):=Am _ (Am _ ho1);show Hs (Hu W.prog W.w) A.in1.in1 (ksk_rest (s.heap.objs.size+1) (.ref q) Hr vs.toArray e1 (.ref ((H0.update (s.heap.objs.size+1) (AP λ_=>(#[]:Array Hw))).push { cls:=.type "tuple",data:=.seq vs.toArray.toList.toArray }).objs.size)) _ _ { s with heap:=((H0.update (s.heap.objs.size+1) (AP λ_=>(#[]:Array Hw))).push { cls:=.type "tuple",data:=.seq vs.toArray.toList.toArray }).push { cls:=.type "list",data:=.seq (BS []) } };rw[hsz2];generalize ((H0.update (s.heap.objs.size+1) (AP λ_=>(#[]:Array Hw))).push { cls:=.type "tuple",data:=.seq vs.toArray.toList.toArray }).push { cls:=.type "list",data:=.seq (BS []) }=H3 at hkS keep3 ho3 ⊢;have hnk:s.heap.get? (s.heap.objs.size+3)=Dt:=BW (by simp +arith);obtain ⟨R3,e3a⟩:=R.keepsAll keep3;have ac:Acc W g H3 (s.heap.objs.size+3) []:=⟨Priv.list R hnk hkS,⟨_,_,hkS,rfl⟩,rfl⟩
    have pa:Priv W g H3 (s.heap.objs.size+1):=Priv.list R hna ho3;have hne:s.heap.objs.size+1≠s.heap.objs.size+3:=by exact qb9 rfl
    unfold ksk_rest;refine Aa (FP ?_);first
      | rw[List.forIn_toArray]
      | (rw[<- Array.forIn_toList];simp only[List.toList_toArray])
    refine Aa (qpg rm2 hne (λu s' Q' hcall=>?_) l keys vs [] g { s with heap:=H3 } _ R3 (hlr.up e3a) (rf.up e3a) ac pa _ ho3 hl hc hp (by simpa using h64) λg4 s4 R4 e4 ac4 pa4 ho4=>?_)
    . refine Aa (wpAny_attempt (AD hcall (λv s'' hv=>?_) λ_ _ x=>x.elim));refine qa2 (hv) ?_;intro vs' n' hk' hz' hq';refine Aa (Gm hk' rfl ?_ (by rw[AB];lia) (Af (Bn (Array.size_push ..)) (by rw[AB];lia)));exact Ad ⟨rfl,hq'⟩
    . refine qcs (ac4.obj) ?_;intro ksA nk hk4 hkr4;obtain ⟨ks,rfl⟩:∃ks:List Hw,ksA=ks.toArray:=⟨ksA.toList,by rfl⟩
      have hkr:RVs W g4 s4.heap keys ks:=by simpa using hkr4
      have hkl:ks.length=vs.length:=by rw[hkr.length,hl,hvl]
      have hlr4:RVs W g4 s4.heap l vs:=(hlr.up e3a).mono e4 (Priv.xok λb q=>by subst q;exact ac.priv) l (.inl λb q=>by subst q;exact ac.priv.own) vs;refine Aa (listItems_at hk4 rfl ?_);have fin:∀(out:List Hw) (st:SortSt),(arrOf st).map (·.2)=BS out->failedOf st=Dt->RVs W g4 s4.heap (qgy lt l) out->out.length=l.length ->
          Hs (Hu W.prog W.w) A.in1.in1 (ksk_tail (s.heap.objs.size+1) Hr e1 (.ref (s.heap.objs.size+3)) st) (λfin s'=>∃v,fin=PySem.Fin.done (.ret v)/\Hs (Hu W.prog W.w) A.in1 (ret (.ref (s.heap.objs.size+1))) (λfin s'=>∃v,fin=PySem.Fin.done (.ret v)/\Q v s') E s') E s4:=λout st h1 h2 h3 h4=>by
        refine qmk hne hk4 ho4 h1 (by simp_all) (by rw[Cb];simp_all) h2 ⟨_,rfl,Ad ⟨_,rfl,?_⟩⟩;have t1:=Bb s4.heap (s.heap.objs.size+3) (AP λ_=>(#[]:Array Hw));have t2:=Bb (s4.heap.update (s.heap.objs.size+3) (AP λ_=>(#[]:Array Hw))) (s.heap.objs.size+1) (AP λ_=>BS out);have hna':=GQ (c := "list") ((t1.2 _ hne).trans ho4) λ_=>BS out
        have hX:∀b,(b=s.heap.objs.size+3\/b=s.heap.objs.size+1)->Priv W g4 s4.heap b:=λb q=>by
          rcases q with rfl | rfl
          . exact ac4.priv
          . exact pa4
        obtain ⟨R5,e5⟩:=R4.turn2 (g':=qbw g4 (s.heap.objs.size+1) .fz) (h':=(s4.heap.update (s.heap.objs.size+3) (AP λ_=>(#[]:Array Hw))).update (s.heap.objs.size+1) (AP λ_=>BS out)) s4.toks (λb=>b=s.heap.objs.size+3\/b=s.heap.objs.size+1) hX
          (λb o _ q=>qa5 λz=>q (.inr z)) (λb q=>by
            rcases q with rfl | rfl
            . rw[qa5 hne.symm];exact .inl ac4.priv.own
            . exact .inr ⟨qa3,_,hna'⟩) (λb q=>by
            by_cases z:b=s.heap.objs.size+1
            . subst z;rw[ho4] at q;cases q
            . rw[qa5 z];exact .inl (R4.newO q)) (λb o q z=>by
            rw[not_or] at z;exact (t2.2 b z.2).trans ((t1.2 b z.1).trans q))
        refine hQ _ _ _ R5 ?_ ⟨_,_,_,rfl,qa3,hna',?_⟩
        . have e45:=(e4.inX (X':=λb=>b=s.heap.objs.size+3\/b=s.heap.objs.size+1) λb q=>.inl q).trans e5;exact (e3a.toX.trans e45).weak R.low (λb o ho q=>by rcases q with rfl | rfl <;> (first | rw[hnk] at ho | rw[hna] at ho) <;> cases ho) λ_ q=>q
        . simpa using h3.mono e5 (Priv.xok hX) _ (.inl λb q=>(hX b q).own) out
      unfold ksk_end;try dsimp only
      by_cases hn:l.length<2
      . have hn':vs.toArray.size<2:=by rw[Cb];simp_all
        rw[if_pos hn',if_pos hn'];refine Aa (Ad (Aa (Ad ?_)));refine fin vs _ ?_ rfl (by unfold qgy;rw[if_pos hn];exact hlr4) hvl;show ((ks.toArray.zip vs.toArray).map (·.2))=vs.toArray;apply Array.toList_inj.mp;simp[List.map_snd_zip,hkl]
      . have hn':¬vs.toArray.size<2:=by rw[Cb];simp_all
        rw[if_neg hn',if_neg hn'];refine qa4 (hK g4 s4.heap ks hkr (by simp_all)) ?_;intro κ hkind hask;refine Aa (hkind _ s4 _ _ rfl ?_);refine qgb (qkg (N:=vs.length) S (by lia)) ?_;intro z1 z2 z3;refine Aa (AD (kat_run (Q:=λst' s'=>s'=s4/\arrOf st'=(qem lt (Fm vs.length)).map (kas_item (ks.toArray.zip vs.toArray))/\failedOf st'=Dt) (G:=λp s'=>p=qem lt (Fm vs.length)/\s'=s4) hkl (by simp_all) (by simp_all) (λp st' s' a1 a2 a3 a4=>by
          obtain ⟨rfl,rfl⟩:=a4;exact ⟨rfl,a2,a3⟩) (qi9 (N:=vs.length) (lt:=lt) (λi j C hi hj hC=>hask _ s4 i j C rfl (by simp_all) (by simp_all) hC) _ (qpi (by lia)) ⟨rfl,rfl⟩)) ?_ λ_ _ x=>x)
        rintro ⟨⟨⟩,st'⟩ s' ⟨rfl,har,hf⟩
        refine fin _ st' (kat_snds hkl har) hf ?_ ?_
        . unfold qgy;rw[if_neg hn,<- hvl];exact hlr4.pickN _ λi hi=>by
            have:=z2.mem_iff.mp hi;rw[Au] at this;simp_all
        . rw[Ah,Az,z1,hvl]
end
end
section
section
theorem Ick {f:AV}{keys:List AV}{lt:Nat->Nat->Bool}{kx:Hv}(hkx:kx=Bh "key")(hf:∀(g:Ht->Own) (h:Heap) (u:Hw),RV W g h f u->∃q,u=.ref q)(hL:Lv σ v l)(h64:l.length<64)(hl:keys.length=l.length)(hc:∀(i:Nat) (x y:AV),l[i]?=ER x->keys[i]?=ER y->Calls W noY k fr σ f [x] [] [] y σ)(hp:plains keys=Hq)(hpl:plains l=Hq)(hK:KeyOk W keys lt)(S:SWO lt):
    Calls W Y (k+2) fr σ (.glob (.builtin "sorted")) [v] [kx] [f] (.lst (qgy lt l)) σ:=λA g s vf us ks rm R rf ru rk Q E hQ=>by
  subst hkx;obtain rfl:vf=.builtin "sorted":=rf;refine qa2 (ru) ?_;(try clear ru);intro u q eq_0_2 ru rq;subst eq_0_2;obtain rfl:q=[]:=rq;refine qa2 (rk) ?_;(try clear rk);intro u' q eq_1_2 rk rq;subst eq_1_2;obtain rfl:q=[]:=rq;obtain ⟨q,rfl⟩:=hf _ _ _ rk;refine qbs (hL.at R ru) ?_;intro la vs n eq_3_3 _;subst eq_3_3;exact qhn rm hL R ru rk h64 hl hc hp hpl hK S λv' g' s' R' e' rv=>hQ v' g' s' R' e'.no rv
theorem qqp:∀{vs:List Hw} {ns:List Int},Hn vs ns->RVs W g h (qa0 ns) vs
  | _,_,.nil=>rfl
  | _,_,.cons n t q=>⟨_,_,rfl,⟨t,rfl⟩,qqp q⟩
theorem Ibo {ns':List Int}(hL:Lv σ v (qa0 ns))(h64:ns.length<64)(hp:ns'.Perm ns)(hs:ns'.Pairwise (·<=·)):Calls W Y k fr σ (.glob (.builtin "sorted")) [v] [] [] (.lst (qa0 ns')) σ:=λA g s vf us ks rm R rf ru rk Q E hQ=>by
  obtain rfl:vf=.builtin "sorted":=rf;refine qa2 (ru) ?_;(try clear ru);intro u q eq_4_2 ru rq;subst eq_4_2;obtain rfl:q=[]:=rq;obtain rfl:ks=[]:=rk;refine qa1 (hL.at R ru) ?_;intro la vs n eq_5_3 ho hr _;subst eq_5_3;have hI:=hr.ints;refine sorted_ints (vs:=vs.toList) (by simpa using qah ho) hI (by rw[hr.length];simpa using h64) λout ns'' h1 h2 h3=>?_
  have e:ns''=ns':=Gq.eq_of_pairwise (λa b _ _ h h'=>GN h h') h3 hs (h2.trans hp.symm);subst e;obtain ⟨e1,hat⟩:=sortedAll_at s.heap vs.toList out;have hnone:s.heap.get? (s.heap.objs.size+1)=Dt:=BW (Dn _);obtain ⟨R',e'⟩:=R.turn2 (g':=qbw g (s.heap.objs.size+1) .fz) (h':=sortedAll s.heap vs.toList out) s.toks noX (λ_ h=>h.elim) (λb o hb _=>qa5 λq=>by subst q;rw[hnone] at hb;cases hb) (λ_ h=>h.elim) (λb hb=>by
    by_cases q:b=s.heap.objs.size+1
    . subst q;exact .inr ⟨qa3,_,hat⟩
    . rw[qa5 q];exact .inl (R.newO hb)) (λb o hb _=>sortedAll_old hb)
  refine hQ _ _ _ R' e'.no ⟨_,out,e1,rfl,qa3,hat,?_⟩;exact qqp h1
end
theorem SWO.ints {f:Nat->Int}:SWO (λi j=>decide (f i<f j)):=⟨λ{a b} h=>by simp at h ⊢;lia,λ{a b c} h1 h2=>by simp at h1 h2 ⊢;lia,λ{a b c} h1 h2=>by simp at h1 h2 ⊢;lia⟩
theorem qlb {lt:Nat->Nat->Bool}(S:SWO lt)(l:List AV):∃p:List Nat,p.Perm (Ae l.length)/\p.Pairwise (Prec lt)/\qgy lt l=p.map λi=>l.getD i .none:=by
  by_cases h:l.length<2
  . refine ⟨Ae l.length,.refl _,?_,?_⟩
    . match l,h with
      | [],_=>simp
      | [_],_=>simp
    . unfold qgy;rw[if_pos h];match l,h with
      | [],_=>rfl
      | [_],_=>rfl
  . refine qgb (qkg S (N:=l.length) (by lia)) ?_;intro h1 h2 h3;exact ⟨_,h2,h3,by unfold qgy;rw[if_neg h]⟩
end
section
def Weak (m2 m:List (Option AV)):Prop:=∀(i:Nat) (av:AV),m[i]?=ER (ER av)->m2[i]?=ER (ER av)
theorem Weak.refl:Weak m m:=λ_ _ h=>h
noncomputable def mkN:Nat->List (Option AV)->List (Option AV)
  | _,[]=>[]
  | n,a::l=>bif DV (n % 2) 1 then Dt::mkN (n / 2) l else a::mkN (n / 2) l
theorem Ia9 (n:Nat){l:List (Option AV)}:Weak l (mkN n l):=by
  induction l generalizing n with
  | nil=>exact Weak.refl
  | cons a l ih=>
    intro i av q;have q:(bif DV (n % 2) 1 then Dt::mkN (n / 2) l else a::mkN (n / 2) l)[i]?=ER (ER av):=q;cases e:DV (n % 2) 1 with
    | true=>
      rw[e] at q;cases i with
      | zero=>exact nomatch q
      | succ i=>exact ih (n / 2) i av q
    | false=>
      rw[e] at q;cases i with
      | zero=>exact q
      | succ i=>exact ih (n / 2) i av q
theorem Weak.set (h:m[i]?=ER Dt):Weak (m.set i (ER v)) m:=λj av q=>by
  by_cases e:j=i
  . subst e;rw[h] at q;cases q
  . rw[AX (B5 e)];exact q
theorem Ia8 (h:Weak m m')(hi:m'[i]?=ER Dt):Weak (m.set i (ER v)) m':=λj av q=>by
  by_cases e:j=i
  . subst e;rw[hi] at q;cases q
  . rw[AX (B5 e)];exact h j av q
section
variable {outer:List HA} {m0:List (Option AV)}
theorem Exs.post (h:Exs C k fr m σ sts fl m2 z')(w:Weak m2 m'):Exs C k fr m σ sts fl m' z':=λA env g s rm R F Q E hQ=>h A env g s rm R F Q E λf' g' s' R' e' F' hf=>hQ f' g' s' R' e' (F'.weak w) hf
theorem Ex.post (h:Ex C k fr m σ st fl m2 z')(w:Weak m2 m'):Ex C k fr m σ st fl m' z':=λA env g s rm R F Q E hQ=>h A env g s rm R F Q E λf' g' s' R' e' F' hf=>hQ f' g' s' R' e' (F'.weak w) hf
theorem ForC.pre (h:ForC C k fr t body orelse ai i m σ fl m' z')(w:Weak m2 m):ForC C k fr t body orelse ai i m2 σ fl m' z':=λA env g s it ws rm R F S hP Rr hR=>h A env g s it ws rm R (F.weak w) S hP Rr hR
theorem CompC.pre {acc':List AV}(h:CompC C k fr elt gens scope pos d ai i m σ acc m' z' acc')(w:Weak m2 m):CompC C k fr elt gens scope pos d ai i m2 σ acc m' z' acc':=
  λA env g s it ws D rm R F S hP a hD Rr hR=>h A env g s it ws D rm R (F.weak w) S hP a hD Rr hR
theorem Ibi {X:Type}(hg:gens[d]?=ER ⟨t,iter,ifs,0⟩)(hO:ai.Ok σ)(hp:ai.plain=Hq)(ht:ai.pairs=Hq->∃elts n p,t=.Tuple elts n p)(xs:List X)(enc:X->AV)(qkk:X->List AV)(hx:ai.items=xs.map enc)(H:∀(x:X) (acc:List AV),x∈xs->acc.length+(qkk x).length<=Ai->∃m1 m2 b,As C k fr m σ t (enc x) m1 σ/\Tests C k fr m1 σ ifs b σ/\((b=Hq/\Inner C k fr elt gens scope pos d m1 σ acc m2 σ (acc++qkk x))\/(b=Hr/\m2=m1/\qkk x=[]))/\Weak m2 m)(hns:∀g',gens[d+1]?=ER g'->g'.is_async=0)(hz:acc.length+(xs.flatMap qkk).length<=Ai):CompC C k fr elt gens scope pos d ai 0 m σ acc m σ (acc++xs.flatMap qkk):=by
  have key:∀(r p:List X) (acc:List AV),xs=p++r->acc.length+(r.flatMap qkk).length<=Ai->CompC C k fr elt gens scope pos d ai p.length m σ acc m σ (acc++r.flatMap qkk):=by
    intro r;induction r with
    | nil=>
      intro p acc hr hz;rw[Gw,AO];exact CompC.done hg hO (by rw[hx,hr];simp) hns
    | cons x r ih=>
      intro p acc hr hz;rw[BH,An] at hz;have hv:ai.items[p.length]?=ER (enc x):=by rw[hx,hr];simp
      refine qa1 (H x acc (by rw[hr];simp) (by lia)) ?_;intro m1 m2 b ha hb hn w;have next:=ih (p++[x]) (acc++qkk x) (by rw[hr];simp) (by rw[An];lia);rw[An,Ba,AF,<- BH] at next;refine CompC.turn hg hO hp hv ht ha hb ?_ (next.pre w) hns;rcases hn with ⟨h1,h2⟩ | ⟨h1,h2,h3⟩
      . exact .inl ⟨h1,h2⟩
      . exact .inr ⟨h1,h2,rfl,by rw[h3,AO]⟩
  exact key xs [] acc rfl hz
theorem Icp {X S:Type}(hp:ai.plain=Hq)(ht:ai.pairs=Hq->∃elts n p,t=.Tuple elts n p)(xs:List X)(enc:X->AV)(hx:ai.items=xs.map enc)(M:S->List (Option AV))(sg:S->List AObj)(step:S->X->S)(P:S->Prop)(hO:∀s,P s->ai.Ok (sg s))(H:∀(s:S) (x:X),x∈xs->P s->P (step s x)/\∃m1 z1 m2,As C k fr (M s) (sg s) t (enc x) m1 z1/\Exs C k fr m1 z1 body .next m2 (sg (step s x))/\Weak m2 (M (step s x))){s0:S}(h0a:P s0)(hend:Exs C k fr (M (xs.foldl step s0)) (sg (xs.foldl step s0)) orelse fl m' z'):ForC C k fr t body orelse ai 0 (M s0) (sg s0) fl m' z':=by
  have key:∀(r p:List X) (s:S),xs=p++r->P s->Exs C k fr (M (r.foldl step s)) (sg (r.foldl step s)) orelse fl m' z'->ForC C k fr t body orelse ai p.length (M s) (sg s) fl m' z':=by
    intro r;induction r with
    | nil=>
      intro p s hr hs he;exact ForC.done (hO s hs) (by rw[hx,hr];simp) he
    | cons x r ih=>
      intro p s hr hs he;have hv:ai.items[p.length]?=ER (enc x):=by rw[hx,hr];simp
      refine qp2 (H s x (by rw[hr];simp) hs) ?_;intro hs' m1 z1 m2 ha hb w;have next:=ih (p++[x]) (step s x) (by rw[hr];simp) hs' he;rw[An,Ba] at next;exact ForC.next (hO s hs) hp hv ht ha hb (next.pre w)
  exact key xs [] s0 rfl h0a hend
end
noncomputable def qg5 (m:List (Option AV)) (js:List (Option Nat)):List (Option AV):=js.map λj=>j.bind λj=>(m[j]?).join
noncomputable def qoa (outer:List (Hv×AA)):List (Hv×AA)->List (Option Nat)->Bool
  | [],[]=>Hq
  | (x,kd)::names,j::js=>(match kd,j with
      | .free,ER j=>(match outer[j]? with | some (y,kd')=>y==x&&kcl kd'==1 | none=>Hr)
      | .free,Dt=>Hr
      | .cell,_=>Hr
      | _,Dt=>Hq
      | _,ER _=>Hr)&&qoa outer names js
  | _,_=>Hr
noncomputable def ndB (names:List (Hv×AA)):Bool:=decide (names.map (·.1)).Nodup
theorem qtu (h:ndB names=Hq):∀(i j:Nat) (x:Hv) (k k':AA),names[i]?=ER (x,k)->names[j]?=ER (x,k')->i=j:=λi j x k k' h1 h2=>by
  have hn:(names.map (·.1)).Nodup:=of_decide_eq_true h;have e1:(names.map (·.1))[i]?=ER x:=by rw[Ao,h1];rfl
  have e2:(names.map (·.1))[j]?=ER x:=by rw[Ao,h2];rfl
  refine Ap (Ar.mp e1) ?_;intro hi e1;refine Ap (Ar.mp e2) ?_;intro hj e2;rcases Nat.lt_trichotomy i j with q | q | q
  . exact absurd (e1.trans e2.symm) (B8.mp hn i j hi hj q)
  . exact q
  . exact absurd (e2.trans e1.symm) (B8.mp hn j i hj hi q)
theorem qhd {outer:List (Hv×AA)}:∀{names:List (Hv×AA)} {js:List (Option Nat)},qoa outer names js=Hq->js.length=names.length/\∀(i:Nat) (x:Hv) (kd:AA),names[i]?=ER (x,kd)->kd≠.cell/\(kd=.free->∃j kd',js[i]?=ER (ER j)/\outer[j]?=ER (x,kd')/\kcl kd'=1)/\(kd≠.free->js[i]?=ER Dt)
  | [],[],_=>⟨rfl,λi x kd h=>by simp at h⟩
  | [],_::_,h=>by cases h
  | _::_,[],h=>by cases h
  | (y,ky)::names,j::js,h=>by
    have h':(_&&qoa outer names js)=Hq:=h;rw[AH] at h';obtain ⟨h1,h2⟩:=qhd h'.2;refine ⟨by simp[h1],λi x kd hi=>?_⟩;cases i with
    | succ i=>simp only[List.getElem?_cons_succ] at hi ⊢;exact h2 i x kd hi
    | zero=>
      simp at hi;obtain ⟨rfl,rfl⟩:=hi;have h3:=h'.1;cases ky with
      | «local»=>cases j with | none=>exact ⟨by nofun,(λq=>by cases q),λ_=>rfl⟩ | some j=>cases h3
      | globalExplicit=>cases j with | none=>exact ⟨by nofun,(λq=>by cases q),λ_=>rfl⟩ | some j=>cases h3
      | globalImplicit=>cases j with | none=>exact ⟨by nofun,(λq=>by cases q),λ_=>rfl⟩ | some j=>cases h3
      | cell=>cases j <;> cases h3
      | free=>
        cases j with
        | none=>cases h3
        | some j=>
          refine ⟨by nofun,λ_=>?_,λq=>absurd rfl q⟩;simp only at h3;cases e:outer[j]? with
          | none=>rw[e] at h3;cases h3
          | some p=>
            obtain ⟨z,kz⟩:=p;rw[e] at h3;simp at h3;exact ⟨j,kz,rfl,by rw[e,h3.1],h3.2⟩
theorem CompIn.of (js:List (Option Nat))(h:qoa C.nm names js=Hq)(hn:ndB names=Hq):CompIn C m names (qg5 m js):=by
  refine AC ?_ (qhd h);intro h1 h2;refine ⟨qtu hn,by simp[qg5,h1],λi x hi=>?_,λi x kd hi hk av q=>?_,.inl λi x hi=>(h2 i x _ hi).1 rfl⟩
  . refine qa2 ((h2 i x _ hi).2.1 rfl) ?_;intro j kd e1 e2 e3;refine ⟨j,kd,e2,e3,λav q=>?_⟩;simp only[qg5,Ao,e1] at q;simp at q;cases e:m[j]? with
    | none=>rw[e] at q;simp at q
    | some o=>rw[e] at q;simp at q;rw[q]
  . have:=(h2 i x kd hi).2.2 hk;simp[qg5,Ao,this] at q
end
section
noncomputable def qbb (p:Dw) (i:Nat):List Stmt:=match p.main.body[i]? with | some (.FunctionDef _ _ b _ _ _ _ _ _ _)=>b | _=>[]
noncomputable def qak (p:Dw) (i:Nat):Scope:=match p.main.body[i]? with | some (.FunctionDef _ _ _ _ _ _ s _ _ _)=>s | _=>p.main.scope
noncomputable def qvd (p:Dw) (i:Nat):E4:=match p.main.body[i]? with | some (.FunctionDef _ a _ _ _ _ _ _ _ _)=>a | _=>{ posonlyargs:=[],args:=[],vararg:=Dt,kwonlyargs:=[],kw_defaults:=[],kwarg:=Dt,defaults:=[] }
structure Blt (W:Wd) (x:Hv) (v:Hw):Prop where
  g:W.mg x=Dt
  b:W.mb x=ER v
section
theorem Iej {v:Hw}(hi:C.nm[i]?=ER (x,.globalImplicit))(h:Blt C.W x v)(hd:autoParam ((x==("__debug__":Hv))=Hr) ap1._auto_1):Ev C k fr m σ (.Name x p) (.glob v) σ:=Idx hi h.g h.b hd
end
section
theorem Iak {a b:Int}(hb:b≠0)(hz:b.natAbs<2 ^ 64):Op2 W Y k fr σ (CJ .FloorDiv) (.int a) (.int b) (.int (a.fdiv b)) σ:=Op2.fdiv hb (by
  refine PyProof.noPylong_of_log2 ?_;have h0:b.natAbs≠0:=by simp_all
  have:=(Nat.log2_lt h0 (k:=64)).mpr hz;lia)
theorem Ibj {t:Hw->Hw->Sem Hw}{a b:AV}(h:Op2 W Y k fr σ t a b v z')(e:v=v'):Op2 W Y k fr σ t a b v' z':=e ▸ h
theorem Ian {f:AV}(h:Calls W Y k fr σ f args kn kv v z')(e:v=v')(e2:z'=z''):Calls W Y k fr σ f args kn kv v' z'':=e ▸ e2 ▸ h
end
theorem Iag (h:Ev C k fr m σ e v z')(q:v=v'):Ev C k fr m σ e v' z':=q ▸ h
theorem Iab {v v':Bool}(h:Tr C k fr m σ e v z')(q:v=v'):Tr C k fr m σ e v' z':=q ▸ h
end
section
noncomputable def qln (b:Nat) (σ:List AObj):AObj->AObj
  | .lst l=>.lst (qgp b σ l)
  | .dstr ks l=>.dstr ks (qgp b σ l)
  | .dint ks l=>.dint ks (qgp b σ l)
  | .fn0=>.fn0
  | .elem as l=>.elem as (qgp b σ l)
  | .iter l=>.iter (qgp b σ l)
  | .iterDone=>.iterDone
mutual
theorem qc6:(v:AV)->qb5 b v=Hq->plain v=Hq
  | .loc n,_=>rfl
  | .tup l,h=>qbd l h
  | .lst l,h=>qbd l h
  | .bound f s,h=>qc6 s h
  | .clo ..,h=>by cases (h:Hr=Hq)
  | .none,_=>rfl
  | .bool _,_=>rfl
  | .int _,_=>rfl
  | .str _,_=>rfl
  | .glob _,_=>rfl
  | .any,_=>rfl
termination_by structural x=>x
theorem qbd:(l:List AV)->qac b l=Hq->plains l=Hq
  | [],_=>rfl
  | a::l,h=>by
    have h':(qb5 b a&&qac b l)=Hq:=h;rw[AH] at h';show (plain a&&plains l)=Hq;rw[qc6 a h'.1,qbd l h'.2];rfl
termination_by structural x=>x
end
mutual
theorem qmt:(v:AV)->plain (frz b σ v)=Hq
  | .loc n=>by
    show plain (if n<b then .loc n else match σ[n]? with | some (.lst l)=>if qac b l then .lst l else .any | _=>.any)=Hq;split
    . rfl
    . split
      . split
        . rename_i h;exact qbd _ h
        . rfl
      . rfl
  | .tup l=>qbh l
  | .lst l=>qbh l
  | .bound f s=>by
    show plain (if qb5 b s=Hq then AV.bound f s else .any)=Hq;split
    . rename_i h;exact qc6 s h
    . rfl
  | .clo ..=>rfl
  | .none=>rfl
  | .bool _=>rfl
  | .int _=>rfl
  | .str _=>rfl
  | .glob _=>rfl
  | .any=>rfl
termination_by structural x=>x
theorem qbh:(l:List AV)->plains (qgp b σ l)=Hq
  | []=>rfl
  | a::l=>by
    show (plain (frz b σ a)&&plains (qgp b σ l))=Hq;rw[qmt a,qbh l];rfl
termination_by structural x=>x
end
theorem qle:(ao:AObj)->qde (qln b σ ao)=Hq
  | .lst l=>qbh l
  | .dstr ks l=>qbh l
  | .dint ks l=>qbh l
  | .fn0=>rfl
  | .elem as l=>qbh l
  | .iter l=>qbh l
  | .iterDone=>rfl
theorem qjm:(ao:AObj)->qdk b ao=Hq->qln b σ ao=ao
  | .lst l,h=>by show AObj.lst (qgp b σ l)=_;rw[qb0 l h]
  | .dstr ks l,h=>by show AObj.dstr ks (qgp b σ l)=_;rw[qb0 l h]
  | .dint ks l,h=>by show AObj.dint ks (qgp b σ l)=_;rw[qb0 l h]
  | .fn0,_=>rfl
  | .elem as l,h=>by show AObj.elem as (qgp b σ l)=_;rw[qb0 l h]
  | .iter l,h=>by show AObj.iter (qgp b σ l)=_;rw[qb0 l h]
  | .iterDone,_=>rfl
section
variable {s:Ab}
theorem RO.exitF (R:Rep W fr g σ s)(hn:n<k):(ao:AObj)->RO W g s.heap a n ao->RO W (gx k g s.heap) s.heap a n (qln k σ ao)
  | .lst l,r=>by refine qcs (r) ?_;intro vs m ho hr;exact ⟨vs,m,ho,RVs.exit R l _ hr⟩
  | .dstr keys l,r=>by refine qaj (r) ?_;intro vs hd hl hr;exact ⟨vs,hd,hl,RVs.exit R l _ hr⟩
  | .dint keys l,r=>by refine qaj (r) ?_;intro vs hd hl hr;exact ⟨vs,hd,hl,RVs.exit R l _ hr⟩
  | .fn0,r=>r
  | .elem attrs l,r=>by
    refine qaf (r) ?_;intro fd d mh vs ho hd hm hr q;exact ⟨fd,d,mh,vs,ho,qkw hd hn,hm,RVs.exit R l _ hr,q⟩
  | .iter l,r=>by
    refine qcr (r) ?_;intro la i vs m ho hg hl hr;exact ⟨la,i,vs,m,ho,qfb hg,hl,RVs.exit R l _ hr⟩
  | .iterDone,_=>(Bo:True)
theorem Rep.exitF (R:Rep W fr g σ s)(k:Nat)(hk:k<=σ.length):Rep W fr (gx k g s.heap) ((σ.take k).map (qln k σ)) s:=by
  have ht:∀{n:Nat} {ao:AObj},((σ.take k).map (qln k σ))[n]?=ER ao->n<k/\∃ao',σ[n]?=ER ao'/\ao=qln k σ ao':=λ{n ao} q=>by
    rw[Ao,List.getElem?_take] at q;split at q
    . rename_i hn;cases e:σ[n]? with
      | none=>rw[e] at q;cases q
      | some ao'=>rw[e] at q;obtain rfl:=Sj q;exact ⟨hn,ao',rfl,rfl⟩
    . cases q
  refine ⟨R.base,λa o ha=>(R.baseO a o ha).imp qcc qfb,λa q=>qcc (R.tabO a q),λa q=>?_,λa ha=>R.low a λq=>ha (qcc q),λn ao q=>?_,
    λa b n qa qb=>R.uniq a b n (qez qa).1 (qez qb).1,λn ao q=>?_,λa n q=>?_,λe he=>?_,R.gens,R.os⟩
  . refine qaj (R.tabs a q) ?_;intro more h2 h3 h4;exact ⟨more,h2,h3,λpos v e=>(h4 pos v e).exit⟩
  . refine qtq (ht q) ?_;intro hn ao' q' eq_6_3;subst eq_6_3;refine qa4 (R.locs n ao' q') ?_;intro a ha ro;exact ⟨a,qgo ha hn,ro.exitF R hn ao'⟩
  . refine qtq (ht q) ?_;intro hn ao' q eq_8_3;subst eq_8_3;exact qle ao'
  . rw[Ah,CD,Fp hk];rcases q with q | q
    . exact (qez q).2
    . exact (qlm q).2
  . refine qaf (R.frs e he) ?_;intro f o es ep h1 h2 h3 h4 h5;exact ⟨f,o,es,ep,h1,h2,h3,qcc h4,h5⟩
end
def Cl (σ:List AObj):Prop:=∀ao∈σ,qdk σ.length ao=Hq
theorem qsk {ext:List AObj}(h:Cl σ):σ=((σ++ext).take σ.length).map (qln σ.length (σ++ext)):=by
  rw[List.take_left' rfl];have:σ.map (qln σ.length (σ++ext))=σ.map id:=CT λao hao=>qjm ao (h ao hao)
  rw[this,List.map_id]
section
theorem Idn {fd:BV}(kp:Nat)(Fn:qqx C a fd body)(hb:qd7 C.W fd args kn kv xs vs)(B:Binds C.nm xs vs (AR C.nm.length Dt) m1)(hbody:∀env,ExsF C k env fr m1 σ body fl m' z'')(hY:∀n,n<σ.length->C.Y n->Y n)(hkp:σ.length<=kp)(hkp2:kp<=z''.length)(hv:v=frz kp z'' (qer fl))(hs:z'=(z''.take kp).map (qln kp z'')):Calls C.W Y (k+1) fr σ (.glob (.ref a)) args kn kv v z':=λA g s vf us ks rm R rf ru rk Q E hQ=>by
  subst hv hs;obtain rfl:vf=.ref a:=rf;refine qa4 (Fn.get) ?_;intro o ho hd;refine qaf (Fn.code) ?_;intro c oc cvs tq h1 h2 h3 h4 h5;refine qa4 (hb fr g σ s us ks R ru rk) ?_;intro ws hbt hws;refine E9 (DU rm.dep (R.base a o ho Fn.nt) hd Fn.co Fn.gen Fn.body ⟨c,oc,cvs,tq,h1,R.base c oc h2 h3,h4,h5⟩ (hbt _ _ _ _ ?_));rw[Fn.glob,Fn.clo,Fn.blt];refine qct (C:=C) (m0:=AR C.nm.length Dt) Fn.nm Fn.nd Fn.kind Fn.lk (by exact Fn.cd) (λo h=>by cases h) R (λi x kd hi=>⟨λhk=>by subst hk;exact absurd hi (Fn.nofree i x),λ_ av q=>by
    rw[BE] at q;split at q <;> cases q⟩) (.inr λi av q=>by rw[BE] at q;split at q <;> cases q) B hws (by simp) λenv g1 s1a R1 e1a F1 hsc hL hcl hown hfr _ hRc=>?_
  refine ⟨R1.nolim,GI ?_⟩;refine hbody env _ g1 s1a rm.deeper (hRc rfl) F1 _ _ λf' g2 s2 R2 e2a F2 hf=>?_
  have hfresh:∀a o,s.heap.get? a=ER o->FX C.nm env a->noX a:=λa o ho ha=>by
    rcases ha with rfl | ⟨i,x,hi,hcx⟩
    . rw[hL] at ho;cases ho
    . rw[hown i x a hi hcx] at ho;cases ho
  have e12:Evo C.W noX C.Y g s.heap g2 s2.heap:=(e1a.no.toX.trans e2a).weak R.low hfresh λ_ q=>q
  have R3:=(R2.fewer (fr':=fr) λe he=>Ak _ he).exitF kp hkp2;have e13:Evo C.W noX Y g s.heap (gx kp g2 s2.heap) s2.heap:=(e12.exit (b:=σ.length) (λa n q=>R.bnd a n q) hkp).wkB R hY;exact hQ (qvg f') _ s2 R3 e13 (RV.exit R2 _ _ (qhr hf))
end
end
section
theorem np {p:Prop}(h:Hr=Hq):p:=nomatch h
theorem qa9 {f:α->AV}(h:∀x,plain (f x)=Hq):∀(l:List α),plains (l.map f)=Hq
  | []=>by with_unfolding_all rfl
  | a::l=>by
    have q:=qa9 h l;show (plain (f a)&&plains (l.map f))=Hq;rw[h a,q];rfl
theorem qaq {f:α->AV}(h:∀x,plain (f x)=Hq)(l:List α):plain (.lst (l.map f))=Hq:=qa9 h l
theorem qc5 (l:List Int):plains (qa0 l)=Hq:=qa9 (λ_=>rfl) l
theorem qcn (l:List Int):plain (.lst (qa0 l))=Hq:=qc5 l
section
variable {X:Type}
theorem qf0 {X Y:Type}{p:X->Bool}{f:X->Y}:∀(xs:List X),xs.flatMap (λx=>if p x=Hq then [f x] else [])=(xs.filter p).map f
  | []=>rfl
  | x::xs=>by
    rw[BH,qf0 xs,List.filter_cons];split <;> simp
theorem Ibc {c:Expr}(hg:gens[d]?=ER ⟨t,iter,[c],0⟩)(xs:List X)(enc:X->AV)(p:X->Bool)(f:X->AV)(M1:X->List (Option AV))(hA:∀x∈xs,As C k fr m σ t (enc x) (M1 x) σ)(hT:∀x∈xs,Tr C k fr (M1 x) σ c (p x) σ)(hE:∀x∈xs,p x=Hq->Ev C k fr (M1 x) σ elt (f x) σ)(hw:∀x,Weak (M1 x) m)(hf:autoParam (∀x,plain (f x)=Hq) ap0._auto_1)(hx:autoParam (ai.items=xs.map enc) ap0._auto_1)(hl:autoParam (gens[d+1]?=Dt) ap0._auto_1)(hO:autoParam (ai.Ok σ) ap3._auto_1)(hp:autoParam (ai.plain=Hq) ap0._auto_1)(ht:autoParam (ai.pairs=Hq->∃elts n p,t=.Tuple elts n p) ap4._auto_1)(hz:autoParam (xs.length<=2 ^ 20) ap2._auto_1):
    CompC C k fr elt gens scope pos d ai 0 m σ [] m σ ((xs.filter p).map f):=by
  have h:=Ibi (C:=C) (k:=k) (fr:=fr) (elt:=elt) (scope:=scope) (pos:=pos) (acc:=[]) (m:=m) hg hO hp ht xs enc (λx=>if p x=Hq then [f x] else []) hx (λx acc hx' ha=>⟨M1 x,M1 x,p x,hA x hx',Tests.one (hT x hx'),?_,hw x⟩) (by rw[hl];exact nofun) (by
    rw[qf0,Ah];have:=BQ p xs;rw[Dk,AB];lia)
  . rw[qf0] at h;exact h
  . cases hpx:p x with
    | true=>
      refine .inl ⟨rfl,?_⟩;rw[if_pos rfl];refine Ibf hl (hE x hx' hpx) (hf x) ?_;lia
    | false=>exact .inr ⟨rfl,rfl,by rfl⟩
theorem CompC.map (hg:gens[d]?=ER ⟨t,iter,[],0⟩)(xs:List X)(enc:X->AV)(f:X->AV)(M1:X->List (Option AV))(hA:∀x∈xs,As C k fr m σ t (enc x) (M1 x) σ)(hE:∀x∈xs,Ev C k fr (M1 x) σ elt (f x) σ)(hw:∀x,Weak (M1 x) m)(hf:autoParam (∀x,plain (f x)=Hq) ap0._auto_1)(hx:autoParam (ai.items=xs.map enc) ap0._auto_1)(hl:autoParam (gens[d+1]?=Dt) ap0._auto_1)(hO:autoParam (ai.Ok σ) ap3._auto_1)(hp:autoParam (ai.plain=Hq) ap0._auto_1)(ht:autoParam (ai.pairs=Hq->∃elts n p,t=.Tuple elts n p) ap4._auto_1)(hz:autoParam (xs.length<=2 ^ 20) ap2._auto_1):
    CompC C k fr elt gens scope pos d ai 0 m σ [] m σ (xs.map f):=by
  have e:∀(xs:List X),xs.flatMap (λx=>[f x])=xs.map f:=λxs=>by induction xs with
    | nil=>rfl
    | cons x xs ih=>rw[BH,ih];rfl
  have h:=Ibi (C:=C) (k:=k) (fr:=fr) (elt:=elt) (scope:=scope) (pos:=pos) (acc:=[]) (m:=m) hg hO hp ht xs enc (λx=>[f x]) hx (λx acc hx' ha=>⟨M1 x,M1 x,Hq,hA x hx',Tests.nil,.inl ⟨rfl,Ibf hl (hE x hx') (hf x) (by lia)⟩,hw x⟩) (by rw[hl];exact nofun) (by
    rw[e,Ah,Dk,AB];lia)
  . rw[e] at h;exact h
end
theorem Ib9 {op:GS}{b:Bool}(h:Tr C k fr m σ e b z'):Trs C k fr m σ op [e] b z':=by
  cases op with
  | And=>have q:=Ic0 h (λ_=>Trs.nil) (λ_=>rfl);rwa[show (b&&(GS.And==GS.And))=b from by cases b <;> rfl] at q
  | Or=>have q:=Ibt h (λ_=>Trs.nil) (λ_=>rfl);rwa[show (b||(GS.Or==GS.And))=b from by cases b <;> rfl] at q
theorem Id0 (hx:C.nm[i]?=ER (x,.cell))(he:Ev C k fr m σ (.ListComp elt gens scope pos) v z')(hp:plain v=Hq):
    Ex C k fr m σ (.Assign [.Name x px] (.ListComp elt gens scope pos) p) .next (m.set i (ER v)) z':=λA env g s rm R F Q E hQ=>by
  refine qa4 (F.names i x _ hx) ?_;intro k' h3 h4;have hkk:(k'==AA.local)=Hr:=by cases k' <;> first | rfl | (exact absurd h4 (by decide))
  have hb:Gj [.Name x px] (.ListComp elt gens scope pos) p.line env=pure Hr:=by
    show swapsWith (.ListComp elt gens scope pos) (ER (.Name x px)) p.line env=pure Hr;show (pure (env.blockKind==.function&&env.kindOf x==ER .local&&px.line==pos.line && !(scope.names.any λ(n,k)=>n==x&&(k==.local||k==.cell))):Sem Bool)=pure Hr;have:(env.kindOf x==ER AA.local)=Hr:=by rw[h3];exact hkk
    rw[this,D7,DD,DD]
  refine CW (he A env g s rm R F _ _ λv' g1 s1a R1 e1a rv=>?_) hb (by rfl);show Hs _ A (G7 v' ((C4 [.Name x px] env).map (·.2))) _ _ _;rw[show (C4 [.Name x px] env).map (·.2)=[PySem.assign (.Name x px) env] from rfl];exact Idb (p:=px) hx (av:=v) hp A env g1 s1a v' rm R1 (F.up e1a) rv _ _ λg2 s2 R2 e2a F2=>hQ _ g2 s2 R2 (e1a.toX.trans e2a) F2 rfl
noncomputable def pickL {α:Type} (l:List α) (lo hi st:Option Int):List α:=
  (E6 (Cc lo hi st l.length).1 (Cc lo hi st l.length).2.1 (Cc lo hi st l.length).2.2).filterMap λi=>l[i]?
theorem qe4 {f:α->AV}(l:List α)(lo hi st:Option Int):qbo (l.map f) lo hi st=(pickL l lo hi st).map f:=by
  unfold qbo pickL;rw[Ah,List.map_filterMap];congr 1
  funext i
  rw[Ao]
theorem qh1 (l:List α)(a:Nat):∀n:Nat,((Ae n).map λk=>a+k).filterMap (λi=>l[i]?)=(l.drop a).take n
  | 0=>by rfl
  | n+1=>by
    rw[DN,AT,List.filterMap_append,qh1 l a n,List.take_add_one,DJ];cases e:l[a+n]? <;> simp[e]
theorem qdv (a b:Nat):E6 (a:Int) (b:Int) 1=(Ae (b - a)).map λk=>a+k:=by
  unfold E6;have:(if (1:Int) > 0 then if (a:Int)<(b:Int) then ((b:Int) - a+1 - 1) / 1 else 0 else if (a:Int) > b then ((a:Int) - b - 1 - 1) / (-1) else 0).toNat=b - a:=by
    rw[if_pos (by decide)];split <;> simp_all
  rw[show (Gx (λ(k:Nat)=>((a:Int)+1*(k:Int)).toNat) (Ae _))=_ from rfl];show Gx _ (Ae (Int.toNat (if (1:Int) > 0 then _ else _)))=_;rw[this];refine CT λk _=>?_
  lia
theorem qcp (l:List α)(j:Nat):pickL l (ER (j:Int)) Dt Dt=l.drop j:=by
  unfold pickL;have e:Cc (ER (j:Int)) Dt Dt l.length=(((min j l.length:Nat):Int),(l.length:Int),1):=by
    simp[Cc];grind
  rw[e];show (E6 ((min j l.length:Nat):Int) ((l.length:Nat):Int) 1).filterMap _=_;rw[qdv,qh1];by_cases h:j<=l.length
  . rw[Fp h,DK (by simp)]
  . rw[Gp (by lia),GK,List.take_zero,List.drop_eq_nil_of_le (by lia)]
theorem qco (l:List α)(j:Nat):pickL l Dt (ER (j:Int)) Dt=l.take j:=by
  unfold pickL;have e:Cc Dt (ER (j:Int)) Dt l.length=(((0:Nat):Int),((min j l.length:Nat):Int),1):=by
    simp[Cc];grind
  rw[e];show (E6 ((0:Nat):Int) ((min j l.length:Nat):Int) 1).filterMap _=_;rw[qdv,qh1];rw[List.drop_zero,Nat.sub_zero];by_cases h:j<=l.length
  . rw[Fp h]
  . rw[Gp (by lia),List.take_length,DK (by lia)]
theorem qff {lo hi st:Option Int}:qbo l lo hi st=pickL l lo hi st:=rfl
theorem qug {x:Int}(hx:x=(j:Nat))(hj:j<n):Di x n=ER j:=by
  subst hx;unfold Di;rw[if_neg (CP.mpr (BA j))];exact if_pos (Ay.mpr ⟨decide_eq_true (BA j),decide_eq_true (Gz.mpr hj)⟩)
theorem quf {x:Int}(hx:x=(j:Int) - (n:Int))(hj:j<n):Di x n=ER j:=by
  subst hx;unfold Di;simp;rw[if_pos (by lia)];simp;assumption
theorem qbi {x:Int}{l:List α}{v:α}(hx:x=(j:Nat))(hv:l[j]?=ER v):∃j,Di x l.length=ER j/\l[j]?=ER v:=⟨j,qug hx (Ar.mp hv).1,hv⟩
theorem quh {x:Int}{l:List α}{v:α}(hv:l[j]?=ER v)(hx:x=(j:Int) - (l.length:Int)):∃j,Di x l.length=ER j/\l[j]?=ER v:=⟨j,quf hx (Ar.mp hv).1,hv⟩
end
section
section
mutual
theorem qdj (hb:∀a n,g a=.loc n->n<b):(v:AV)->∀{u:Hw},plain v=Hq->RV W g h v u->qb5 b v=Hq
  | .loc n,u,_,r=>by
    refine qa4 (r) ?_;intro a _ ha;show decide (n<b)=Hq;exact decide_eq_true (hb a n ha)
  | .tup l,u,hp,r=>by
    refine qa1 (r) ?_;(try clear r);intro a vs n _ _ _ r;exact qb3 hb l hp r
  | .lst l,u,hp,r=>by
    refine qa1 (r) ?_;(try clear r);intro a vs n _ _ _ r;exact qb3 hb l hp r
  | .bound f s,u,hp,r=>by
    refine qaz (r) ?_;(try clear r);intro a sv _ _ _ r;exact qdj hb s hp r
  | .clo ..,_,hp,_=>by cases (hp:Hr=Hq)
  | .none,_,_,_=>rfl
  | .bool _,_,_,_=>rfl
  | .int _,_,_,_=>rfl
  | .str _,_,_,_=>rfl
  | .glob _,_,_,_=>rfl
  | .any,_,_,_=>rfl
termination_by structural x=>x
theorem qb3 (hb:∀a n,g a=.loc n->n<b):(l:List AV)->∀{us:List Hw},plains l=Hq->RVs W g h l us->qac b l=Hq
  | [],_,_,_=>rfl
  | a::l,us,hp,r=>by
    refine qa2 (r) ?_;intro v r' _ h1 h2;have hp':(plain a&&plains l)=Hq:=hp;rw[AH] at hp';show (qb5 b a&&qac b l)=Hq;rw[qdj hb a hp'.1 h1,qb3 hb l hp'.2 h2];rfl
termination_by structural x=>x
end
theorem Rep.cl {s:Ab}(R:Rep W fr g σ s):Cl σ:=λao hao=>by
  obtain ⟨n,hn⟩:=List.mem_iff_getElem?.mp hao;refine qa4 (R.locs n ao hn) ?_;intro a ha ro;have hp:=R.pl n ao hn;have hb:=R.bnd;cases ao with
  | lst l=>refine qcs (ro) ?_;intro vs k _ r;exact qb3 (λa n q=>hb a n (.inl q)) l hp r
  | dstr ks l=>refine qaj (ro) ?_;intro vs _ _ r;exact qb3 (λa n q=>hb a n (.inl q)) l hp r
  | dint ks l=>refine qaj (ro) ?_;intro vs _ _ r;exact qb3 (λa n q=>hb a n (.inl q)) l hp r
  | fn0=>rfl
  | elem as l=>refine qaf (ro) ?_;intro fd d mh vs _ _ _ r _;exact qb3 (λa n q=>hb a n (.inl q)) l hp r
  | iter l=>refine qcr (ro) ?_;intro la i vs k _ _ _ r;exact qb3 (λa n q=>hb a n (.inl q)) l hp r
  | iterDone=>rfl
end
noncomputable def NoK:Hw->Prop:=λ_=>True
def qos (W:Wd) (cd:Hw):Prop:=∃c P,∀Y nm,LamIn ⟨W,Y,nm,cd⟩ c P
def FnB (W:Wd) (K:Hw->Prop) (nm:List (Hv×AA)) (body:List Stmt) (a:Ht) (args:List AV) (kn:List Hv) (kv:List AV) (m1:List (Option AV)):Prop:=
  ∃fd xs vs,(∀Y,qqx ⟨W,Y,nm,fd.code⟩ a fd body)/\K fd.code/\qd7 W fd args kn kv xs vs/\Binds nm xs vs (AR nm.length Dt) m1
def FnX (W:Wd) (nm:List (Hv×AA)) (body:List Stmt) (a:Ht) (args:List AV) (kn:List Hv) (kv:List AV) (m1:Nat->List (Option AV)):Prop:=
  ∃fd xs vs,(∀Y,qqx ⟨W,Y,nm,fd.code⟩ a fd body)/\BindX W fd args kn kv xs vs/\∀n,Binds nm xs (vs++[.loc n]) (AR nm.length Dt) (m1 n)
section
variable {K:Hw->Prop}
theorem FnB.calls (B:FnB W K nm body a args kn kv m1)(kp:Nat)(hbody:∀cd env,K cd->ExsF ⟨W,λn=>Y n\/σ.length<=n,nm,cd⟩ k env fr m1 σ body fl m' z'')(hkp:σ.length<=kp)(hkp2:kp<=z''.length)(hvs:Cl σ->(plains args=Hq->qac σ.length args=Hq)->Cl z''->(plain (qer fl)=Hq->qb5 z''.length (qer fl)=Hq)->v=frz kp z'' (qer fl)/\z'=(z''.take kp).map (qln kp z'')):Calls W Y (k+1) fr σ (.glob (.ref a)) args kn kv v z':=λA g s vf us ks rm R rf ru rk Q E hQ=>by
  refine qa1 (B) ?_;(try clear B);intro fd xs vs Fn hK hb B;have Fn:=Fn (λn=>Y n\/σ.length<=n);have hbd:=λenv=>hbody fd.code env hK
  clear hbody;have clz:Cl σ:=R.cl;have cla:plains args=Hq->qac σ.length args=Hq:=λhp=>qb3 (λa n q=>R.bnd a n (.inl q)) args hp ru
  obtain rfl:vf=.ref a:=rf;refine qa4 (Fn.get) ?_;intro o ho hd;refine qaf (Fn.code) ?_;intro c oc cvs tq h1 h2 h3 h4 h5;refine qa4 (hb fr g σ s us ks R ru rk) ?_;intro ws hbt hws;refine E9 (DU rm.dep (R.base a o ho Fn.nt) hd Fn.co Fn.gen Fn.body ⟨c,oc,cvs,tq,h1,R.base c oc h2 h3,h4,h5⟩ (hbt _ _ _ _ ?_));rw[Fn.glob,Fn.clo,Fn.blt];refine qct (C:=⟨W,λn=>Y n\/σ.length<=n,nm,fd.code⟩) (m0:=AR nm.length Dt) Fn.nm Fn.nd Fn.kind Fn.lk (by exact Fn.cd) (λo h=>by cases h) R (λi x kd hi=>⟨λhk=>by subst hk;exact absurd hi (Fn.nofree i x),λ_ av q=>by
    rw[BE] at q;split at q <;> cases q⟩) (.inr λi av q=>by rw[BE] at q;split at q <;> cases q) B hws (by simp) λenv g1 s1a R1 e1a F1 hsc hL hcl hown hfr _ hRc=>?_
  refine ⟨R1.nolim,GI ?_⟩;refine hbd env _ g1 s1a rm.deeper (hRc rfl) F1 _ _ λf' g2 s2 R2 e2a F2 hf=>?_
  have hfresh:∀a o,s.heap.get? a=ER o->FX nm env a->noX a:=λa o ho ha=>by
    rcases ha with rfl | ⟨i,x,hi,hcx⟩
    . rw[hL] at ho;cases ho
    . rw[hown i x a hi hcx] at ho;cases ho
  have e12:Evo W noX (λn=>Y n\/σ.length<=n) g s.heap g2 s2.heap:=(e1a.no.toX.trans e2a).weak R.low hfresh λ_ q=>q
  have R3:=(R2.fewer (fr':=fr) λe he=>Ak _ he).exitF kp hkp2;have e13:Evo W noX Y g s.heap (gx kp g2 s2.heap) s2.heap:=(e12.exit (b:=σ.length) (λa n q=>R.bnd a n q) hkp).wkB R λn hn q=>q.resolve_right (by simp_all)
  refine AC ?_ (hvs clz cla R2.cl (λhp=>qdj (λa n q=>R2.bnd a n (.inl q)) _ hp (qhr hf)));intro hv hs;subst hv hs;exact hQ (qvg f') _ s2 R3 e13 (RV.exit R2 _ _ (qhr hf))
theorem Cl.app (h:Cl σ):((σ++τ).take σ.length).map (qln σ.length (σ++τ))=σ:=(qsk h).symm
theorem Cl.all (h:Cl σ):(σ.take σ.length).map (qln σ.length σ)=σ:=by
  have:=h.app (τ:=[]);rwa[AO] at this
theorem Iaq (B:FnB W K nm body a args kn kv m1)(hbody:∀cd env,K cd->ExsF ⟨W,λn=>Y n\/σ.length<=n,nm,cd⟩ k env fr m1 σ body fl m' σ)(hv:v=qer fl)(hp:plain (qer fl)=Hq):Calls W Y (k+1) fr σ (.glob (.ref a)) args kn kv v σ:=
  B.calls σ.length hbody (Aq _) (Aq _) λc1 _ _ c2=>⟨by rw[qbq _ (c2 hp)];exact hv,c1.all.symm⟩
theorem Ibw (B:FnB W K nm body a args kn kv m1)(hbody:∀cd env,K cd->ExsF ⟨W,λn=>Y n\/σ.length<=n,nm,cd⟩ k env fr m1 σ body fl m' (σ++τ))(hv:Cl σ->(plains args=Hq->qac σ.length args=Hq)->v=frz σ.length (σ++τ) (qer fl)):Calls W Y (k+1) fr σ (.glob (.ref a)) args kn kv v σ:=
  B.calls σ.length hbody (Aq _) (by simp) λc1 c2 _ _=>⟨hv c1 c2,c1.app.symm⟩
theorem Ibg (B:FnB W K nm body a args kn kv m1)(hbody:∀cd env,K cd->ExsF ⟨W,λn=>Y n\/σ.length<=n,nm,cd⟩ k env fr m1 σ body fl m' z'')(hl:σ.length<=z''.length)(hv:v=qer fl)(hp:plain (qer fl)=Hq):Calls W Y (k+1) fr σ (.glob (.ref a)) args kn kv v z'':=
  B.calls z''.length hbody hl (Aq _) λ_ _ c1 c2=>⟨by rw[qbq _ (c2 hp)];exact hv,c1.all.symm⟩
theorem qk0 (hl:σ.length=b)(h:∀ao∈σ,qdk b ao=Hq):((σ++τ).take b).map (qln b (σ++τ))=σ:=by
  subst hl;exact Cl.app (σ:=σ) h
theorem Ib0 (B:FnB W K nm body a args kn kv m1)(hbody:∀cd env,K cd->ExsF ⟨W,λn=>Y n\/σ.length<=n,nm,cd⟩ k env fr m1 σ body fl m' (z2++τ))(hl:z2.length=σ.length)(hc:Cl σ->(plains args=Hq->qac σ.length args=Hq)->v=frz σ.length (z2++τ) (qer fl)/\∀ao∈z2,qdk σ.length ao=Hq):Calls W Y (k+1) fr σ (.glob (.ref a)) args kn kv v z2:=
  B.calls σ.length hbody (Aq _) (by simp[hl]) λc1 c2 _ _=>⟨(hc c1 c2).1,(qk0 hl (hc c1 c2).2).symm⟩
theorem FnB.callsR {X:String}{P:List Hw->Prop}{mk:Bool}(B:FnB W K nm body a args kn kv m1)(hbody:∀cd env,K cd->ExsR ⟨W,λn=>Y n\/σ.length<=n,nm,cd⟩ k (env::fr) m1 σ body mk X P m' z'):CallsR W Y (k+1) fr σ (.glob (.ref a)) args kn kv Hr X P z':=by
  refine qa1 (B) ?_;(try clear B);intro fd xs vs Fn hK hb B;exact Id4 (Fn (λn=>Y n\/σ.length<=n)) hb B (λenv=>hbody fd.code env hK) λn hn q=>q.resolve_right (by simp_all)
theorem FnX.calls {m1':Nat->List (Option AV)}(B:FnX W nm body a args kn kv m1')(hbody:∀cd env,Exs ⟨W,λn=>Y n\/σ.length<=n,nm,cd⟩ k (env::fr) (m1' σ.length) (σ++[.dstr kn kv]) body fl m' z'')(hl:σ.length<=z''.length)(hv:v=qer fl)(hp:plain (qer fl)=Hq):Calls W Y (k+1) fr σ (.glob (.ref a)) args kn kv v z'':=λA g s vf us ks rm R rf ru rk Q E hQ=>by
  refine qap (B) ?_;(try clear B);intro fd xs vs Fn hb B;have Fn:=Fn (λn=>Y n\/σ.length<=n);have B:=B σ.length;have hbd:=hbody fd.code;clear hbody;obtain rfl:vf=.ref a:=rf;refine qa4 (Fn.get) ?_;intro o ho hd;refine qaf (Fn.code) ?_;intro c oc cvs tq h1 h2 h3 h4 h5;refine E9 (DU rm.dep (R.base a o ho Fn.nt) hd Fn.co Fn.gen Fn.body ⟨c,oc,cvs,tq,h1,R.base c oc h2 h3,h4,h5⟩ (hb _ fr g σ s us ks R ru rk _ _ λws g0 s0 R0 e0 hws=>?_));rw[Fn.glob,Fn.clo,Fn.blt];refine qct (C:=⟨W,λn=>Y n\/σ.length<=n,nm,fd.code⟩) (m0:=AR nm.length Dt) Fn.nm Fn.nd Fn.kind Fn.lk (by exact Fn.cd) (λo h=>by cases h) R0 (λi x kd hi=>⟨λhk=>by subst hk;exact absurd hi (Fn.nofree i x),λ_ av q=>by
    rw[BE] at q;split at q <;> cases q⟩) (.inr λi av q=>by rw[BE] at q;split at q <;> cases q) B hws (by simp) λenv g1 s1a R1 e1a F1 hsc hL hcl hown hfr _ hRc=>?_
  refine ⟨R1.nolim,GI ?_⟩;refine hbd env _ env g1 s1a rm.deeper (hRc rfl) F1 _ _ λf' g2 s2 R2 e2a F2 hf=>?_
  have hfresh:∀a o,s0.heap.get? a=ER o->FX nm env a->noX a:=λa o ho ha=>by
    rcases ha with rfl | ⟨i,x,hi,hcx⟩
    . rw[hL] at ho;cases ho
    . rw[hown i x a hi hcx] at ho;cases ho
  have e12:Evo W noX (λn=>Y n\/σ.length<=n) g s.heap g2 s2.heap:=e0.no.trans ((e1a.no.toX.trans e2a).weak R0.low hfresh λ_ q=>q);have R3:=(R2.fewer (fr':=fr) λe he=>Ak _ he).exitF z''.length (Aq _);have e13:Evo W noX Y g s.heap (gx z''.length g2 s2.heap) s2.heap:=(e12.exit (b:=σ.length) (λa n q=>R.bnd a n q) hl).wkB R λn hn q=>q.resolve_right (by simp_all)
  have cv:=qdj (λa n q=>R2.bnd a n (.inl q)) _ hp (qhr hf);rw[R2.cl.all] at R3;refine hQ (qvg f') _ s2 R3 e13 ?_;have r3:=RV.exit (k:=z''.length) R2 _ _ (qhr hf);rw[qbq _ cv] at r3;rw[hv];exact r3
theorem Icg {l:Lam}{ns:List Hv}{caps:List AV}{m0:List (Option AV)}(I:CloIn l ns caps m0)(hb:∀(fd:BV),fd.params=l.params->fd.defaults=.none->fd.kwdefaults=.none->∀us,us.length=args.length->DF fd ⟨us,[]⟩=pure (xs.zip us))(B:Binds l.scope.names xs args m0 m1)(hbody:∀cd env,Ev ⟨W,λn=>Y n\/σ.length<=n,l.scope.names,cd⟩ k (env::fr) m1 σ l.body v z'')(hl:σ.length<=z''.length)(hp:plain v=Hq):
    Calls W Y (k+1) fr σ (.clo l ns caps) args [] [] v z'':=λA g s vf us ks rm R rf ru rk Q E hQ=>by
  refine qe8 (rf) ?_;intro a fd cvs eq_21_3 hg hcl hcr hcc;subst eq_21_3;obtain rfl:ks=[]:=rk;refine qe7 (hcl.code) ?_;intro cc oc vs' q t hcd hco1 hco2 hco3 hco4 hco5 hco6;have hlen:us.length=args.length:=ru.length;refine E9 (qq1 rm.dep hcl.get rfl (by rw[hcl.scope];exact I.co) (by rw[hcl.scope];exact I.gen) hcl.body ⟨cc,oc,vs',t,hcd,hco3,hco5,hco6⟩ ?_);show Hs _ _ (DF fd ⟨us,[]⟩) _ _ _;rw[hb fd hcl.params hcl.dflt hcl.kwd us hlen];refine Ad ?_;rw[hcl.scope,hcl.glob,hcl.blt];refine qct (C:=⟨W,λn=>Y n\/σ.length<=n,l.scope.names,fd.code⟩) (m0:=m0) rfl I.nd I.kind (qc9 I.nd) rfl (λo h=>by cases h) R (λi x kd hi=>⟨λhk=>?_,λhk=>I.rest i x kd hi hk⟩) I.pl B ru I.len λenv g1 s1a R1 e1a F1 hsc hL hcells hown hfr _ hRc=>?_
  . subst hk;refine qa4 (I.free i x hi) ?_;intro j h1 h2;refine qan (hcc j x h1) ?_;intro c u h3 h4 h5 h6 h7;refine ⟨c,ER u,h3,h7,h6,.inr h4,λav q=>⟨u,rfl,?_⟩⟩;refine qa4 (hcr.getA (h2 av q)) ?_;intro u' hu' ru';rw[h5] at hu';obtain rfl:=Sj hu';exact ru'
  . refine ⟨R1.nolim,kla_codeExpr ?_⟩;have R1':=hRc rfl;refine hbody fd.code env _ env g1 s1a rm.deeper R1' F1 _ _ λv' g2 s2 R2 e2a rv=>?_
    have hfresh:∀a o,s.heap.get? a=ER o->FX l.scope.names env a->noX a:=λa o ho ha=>by
      rcases ha with rfl | ⟨i,x,hi,hcx⟩
      . rw[hL] at ho;cases ho
      . rw[hown i x a hi hcx] at ho;cases ho
    have e12:Evo W noX (λn=>Y n\/σ.length<=n) g s.heap g2 s2.heap:=e1a.no.trans e2a;have R3:=(R2.fewer (fr':=fr) λe he=>Ak _ he).exitF z''.length (Aq _);have e13:Evo W noX Y g s.heap (gx z''.length g2 s2.heap) s2.heap:=(e12.exit (b:=σ.length) (λa n q=>R.bnd a n q) hl).wkB R λn hn q=>q.resolve_right (by simp_all)
    have cv:=qdj (λa n q=>R2.bnd a n (.inl q)) _ hp rv;rw[R2.cl.all] at R3;refine hQ v' _ s2 R3 e13 ?_;have r3:=RV.exit (k:=z''.length) R2 _ _ rv;rw[qbq _ cv] at r3;exact r3
end
end
section
noncomputable def nth (l:List Stmt) (i:Nat):Stmt:=l.getD i (.Break ⟨0,0,0,0⟩)
noncomputable def qi1 (l:List Expr) (i:Nat):Expr:=l.getD i (.Constant .none 0 ⟨0,0,0,0⟩)
noncomputable def stS:Stmt->(List Stmt×List Stmt)×Expr×Expr×Expr
  | .If t b e _=>((b,e),t,qi1 [] 0,qi1 [] 0)
  | .While t b e _=>((b,e),t,qi1 [] 0,qi1 [] 0)
  | .For t e b l _=>((b,l),qi1 [] 0,t,e)
  | .Try b _ _ _ _=>((b,[]),qi1 [] 0,qi1 [] 0,qi1 [] 0)
  | .Assign ts e _=>(([],[]),qi1 [] 0,qi1 ts 0,e)
  | .Return (ER e) _=>(([],[]),qi1 [] 0,qi1 [] 0,e)
  | .Expr e _=>(([],[]),qi1 [] 0,qi1 [] 0,e)
  | _=>(([],[]),qi1 [] 0,qi1 [] 0,qi1 [] 0)
noncomputable def qb4 (s:Stmt):List Stmt:=(stS s).1.1
noncomputable def qo3 (s:Stmt):List Stmt:=(stS s).1.2
noncomputable def qiz (s:Stmt):Expr:=(stS s).2.1
noncomputable def qbm (s:Stmt):Expr:=(stS s).2.2.1
noncomputable def qf3 (s:Stmt):Expr:=(stS s).2.2.2
theorem WhileC.pre (h:WhileC C k fr test body orelse m σ fl m' z')(w:Weak m2 m):WhileC C k fr test body orelse m2 σ fl m' z':=λA env g s rm R F Rr hR=>h A env g s rm R (F.weak w) Rr hR
theorem WhileC.post (h:WhileC C k fr test body orelse m σ fl m2 z')(w:Weak m2 m'):WhileC C k fr test body orelse m σ fl m' z':=λA env g s rm R F Rr hR=>h A env g s rm R F Rr λf' g' s' R' e' F' hf=>hR f' g' s' R' e' (F'.weak w) hf
theorem Iaf (h:Exs C k fr m σ sts fl m2 z'):Exs C k fr m σ sts fl [] z':=h.post λi av q=>by simp at q
theorem Idt (h:ExsF C k env fr m σ sts fl m2 z'):ExsF C k env fr m σ sts fl [] z':=λA g s rm R F Q E hQ=>h A g s rm R F Q E λf' g' s' R' e' F' hf=>hQ f' g' s' R' e' (F'.weak λi av q=>by simp at q) hf
theorem ExsR.post {mk:Bool}{X:String}{P:List Hw->Prop}(h:ExsR C k fr m σ sts mk X P m2 z')(w:Weak m2 m'):ExsR C k fr m σ sts mk X P m' z':=λA env outer g s hfr rm R F Q E hE=>h A env outer g s hfr rm R F Q E λe g' h0a us s' hp e1a F1 y=>hE e g' h0a us s' hp e1a (F1.weak w) y
def KeyFn {S:Type} (W:Wd) (d:Nat) (Yk:Nat->Prop) (sg:S->List AObj) (P:S->Prop) (key v:AV) (n:Int):Prop:=
  ∀s,P s->∃s',P s'/\∀(k:Nat) (fr:List HA) (Y:Nat->Prop),(∀n,Yk n->Y n)->Calls W Y (k+d) fr (sg s) key [v] [] [] (.int n) (sg s')
structure qom {S:Type} (W:Wd) (d:Nat) (Yk:Nat->Prop) (sg:S->List AObj) (P:S->Prop) (key a:AV) (l:List AV) (κ:Nat->Int):Prop where
  kept:Kept W key
  nn:isNone key=ER Hr
  lv:∀s,P s->Lv (sg s) a l
  at_:∀j v,l[j]?=ER v->KeyFn W d Yk sg P key v (κ j)
theorem Ibk {n:Int}(h:∀k fr Y,Calls W Y (k+d) fr σ key [v] [] [] (.int n) σ):KeyFn W d (λ_=>False) (λ_:Unit=>σ) (λ_=>True) key v n:=λs hs=>⟨s,hs,λk fr Y _=>h k fr Y⟩
theorem FnB.kept {K:Hw->Prop}(B:FnB W K nm body a args kn kv m1):Kept W (.glob (.ref a)):=by
  refine qbs (B) ?_;intro fd xs vs Fn _;exact Ico (Fn noY)
theorem FnX.kept {m1:Nat->List (Option AV)}(B:FnX W nm body a args kn kv m1):Kept W (.glob (.ref a)):=by
  refine qbs (B) ?_;intro fd xs vs Fn _;exact Ico (Fn noY)
section
variable {a:AV}
theorem Ibb (hL:Lv σ a l):MethOk W fr σ a "insert" (.glob (.builtin "list.insert")) [a]:=MethOk.list hL PySem.F.slot_list_insert
theorem Meth.append (hL:Lv σ a l):MethOk W fr σ a "append" (.glob (.builtin "list.append")) [a]:=MethOk.list hL PySem.F.slot_list_append
theorem Icd (hL:Lv σ a l):MethOk W fr σ a "index" (.glob (.builtin "list.index")) [a]:=MethOk.list hL PySem.F.slot_list_index
theorem Ie3 (hL:Lv σ a l):MethOk W fr σ a "pop" (.glob (.builtin "list.pop")) [a]:=MethOk.list hL PySem.F.slot_list_pop
theorem Icy (hL:Lv σ a l):MethOk W fr σ a "extend" (.glob (.builtin "list.extend")) [a]:=MethOk.list hL PySem.F.slot_list_extend
theorem Meth.join:MethOk W fr σ (.str x) "join" (.glob (.builtin "str.join")) [.str x]:=MethOk.str PySem.F.slot_str_join (by first | rfl | decide +kernel | kernel_rfl)
theorem Ide:MethOk W fr σ (.str x) "split" (.glob (.builtin "str.split")) [.str x]:=MethOk.str PySem.F.slot_str_split (by first | rfl | decide +kernel | kernel_rfl)
end
theorem qc8 (h:∀v∈l,qb5 b v=Hq):qac b l=Hq:=by
  induction l with
  | nil=>rfl
  | cons a l ih=>
    show (qb5 b a&&qac b l)=Hq;rw[h a Ac,ih λv hv=>h v (Ak _ hv)];rfl
theorem qcz (h:qac b l=Hq):∀v∈l,qb5 b v=Hq:=by
  induction l with
  | nil=>intro v hv;cases hv
  | cons a l ih=>
    have h':(qb5 b a&&qac b l)=Hq:=h;rw[AH] at h';intro v hv;rcases Aw.mp hv with rfl | hv
    . exact h'.1
    . exact ih h'.2 v hv
theorem qtw {lo:Nat}:AV.int (((lo:Int)+(hi:Int)).fdiv 2)=.int (((lo+hi) / 2:Nat):Int):=by
  rw[Dc _ (by simp +arith)];congr 1
end
section
section
theorem Tv.int {i:Int}:Tv W Y k fr σ (.int i) (i != 0):=λA g s va rm R ra Q E hQ=>by
  obtain ⟨t,rfl⟩:=ra;exact truthy_int (hQ g s R Evo.refl)
end
theorem qoi {v c:Int}(hv:0<=v)(h0:0<=c)(h1:c<64):Du (v*64) c=v*64+c:=by
  rw[bitOr_and];have:AN (v*64) c=0:=by
    refine Ap (Dz hv) ?_;intro n eq_0_1;subst eq_0_1;refine Ap (Dz h0) ?_;intro m eq_1_1;subst eq_1_1;have e:AN ((n:Int)*64) (m:Int)=(((n*2 ^ 6) &&& m:Nat):Int):=by
      rw[bitAnd_pp (by simp +arith) (by assumption)];have:((n:Int)*64).toNat=n*2 ^ 6:=by lia
      rw[this];rfl
    rw[e];have:(n*2 ^ 6) &&& m=0:=by
      apply CI;intro i;rw[Nat.testBit_and,Nat.testBit_mul_two_pow,DB];by_cases hi:6<=i
      . have:m.testBit i=Hr:=Bw (Ag (by lia:m<2 ^ 6) (Bq (by decide) hi));rw[this,D7]
      . simp[hi]
    rw[this];rfl
  simp_all
noncomputable def qm2:Int->Int->List Int->Option (Int×List Int)
  | val,b,rest=>if b / 64 % 2=0 then ER (val,rest) else match rest with
    | []=>Dt
    | b'::r=>if 0<=val/\val<2 ^ 50 then qm2 (val*64+b' % 64) b' r else Dt
noncomputable def pv:List Int->Option (Int×List Int)
  | []=>Dt
  | b::r=>qm2 (b % 64) b r
noncomputable def qck (n w:Int):List Int:=(([5,4,3,2,1]:List Int).filter (λk=>w==1||decide (64 ^ k.toNat<=n))).map (λk=>(n.fdiv (64 ^ k.toNat)).fmod 64+64)++[n.fmod 64]
noncomputable def qo2 (n w:Int):List Int:=match qck n w with
  | []=>[]
  | h::t=>(h+128)::t
theorem qgq {n w:Int}:(qck n w).length<=6/\∃h t,qck n w=h::t:=by
  constructor
  . unfold qck;rw[An,Ah];have:=BQ (λk:Int=>w==1||decide (64 ^ k.toNat<=n)) [5,4,3,2,1];simp at this ⊢;omega
  . unfold qck;cases Gx (λk=>(n.fdiv (64 ^ k.toNat)).fmod 64+64) (List.filter (λk:Int=>w==1||decide (64 ^ k.toNat<=n)) [5,4,3,2,1]) with
    | nil=>exact ⟨_,_,rfl⟩
    | cons a l=>exact ⟨_,_,rfl⟩
theorem qgz {val b:Int}{rest:List Int}(h:b / 64 % 2=0):qm2 val b rest=ER (val,rest):=by cases rest <;> exact if_pos h
theorem qfp {val b b':Int}{rest:List Int}(h:b / 64 % 2≠0)(h2:0<=val/\val<2 ^ 50):qm2 val b (b'::rest)=qm2 (val*64+b' % 64) b' rest:=by
  show (if b / 64 % 2=0 then _ else if 0<=val/\val<2 ^ 50 then _ else _)=_;rw[if_neg h,if_pos h2]
noncomputable def qm3 (n:Int):Nat->List Int
  | 0=>[n % 64]
  | k+1=>(n / 64 ^ (k+1) % 64+64)::qm3 n k
theorem qrd (k:Nat):(0:Int)<64 ^ k:=Int.pow_pos (by decide)
theorem qvi (y:Int):0<=y % 64/\y % 64<64:=⟨Int.emod_nonneg _ (by decide),Int.emod_lt_of_pos _ (by decide)⟩
theorem qvv (y q:Int):(y % 64+q*64) / 64=q:=by rw[Int.add_mul_ediv_right _ _ (by decide),Int.ediv_eq_zero_of_lt (qvi y).1 (qvi y).2,EL]
theorem qvu (y q:Int):(y % 64+q*64) % 64=y % 64:=by rw[Int.add_mul_emod_self_right,Int.emod_emod]
theorem qxd (y:Int):(y % 64+64) / 64 % 2≠0:=by rw[show y % 64+64=y % 64+1*64 from rfl,qvv];decide
theorem qxc (y:Int):y % 64 / 64 % 2=0:=by rw[Int.ediv_eq_zero_of_lt (qvi y).1 (qvi y).2];rfl
theorem qxb (y:Int):y / 64*64+y % 64 % 64=y:=by rw[Int.emod_emod,Int.ediv_mul_add_emod]
theorem qxa (y:Int):y / 64*64+(y % 64+64) % 64=y:=by rw[show y % 64+64=y % 64+1*64 from rfl,qvu,Int.ediv_mul_add_emod]
theorem qht {n:Int}(h0:0<=n)(rest:List Int):∀(k:Nat) (val b:Int),b / 64 % 2≠0->val=n / 64 ^ (k+1)->n / 64<2 ^ 50->qm2 val b (qm3 n k++rest)=ER (n,rest)
  | 0,val,b,hb,hv,h1=>by
    obtain rfl:val=n / 64:=hv;rw[qm3,EZ,Dh,qfp hb ⟨Eu h0 (by decide),h1⟩,qgz (qxc n),qxb]
  | k+1,val,b,hb,hv,h1=>by
    have hp:=qrd (k+1);have hy0:0<=n / 64 ^ (k+1):=Eu h0 (AU hp);obtain rfl:val=n / 64 ^ (k+1) / 64:=by rw[hv,GL,<- Int.ediv_ediv_of_nonneg (AU hp)]
    rw[qm3,EZ,qfp hb ⟨Eu hy0 (by decide),DH (Int.ediv_le_ediv (by decide) (Int.ediv_le_self _ h0)) h1⟩];exact qht h0 rest k _ _ (qxd _) (qxa _) h1
theorem qlq {n w:Int}(h0:0<=n)(h1:n<64 ^ 6):∃k:Nat,k<=5/\qck n w=qm3 n k/\n<64 ^ (k+1):=by
  have fd:∀k:Nat,(n.fdiv (64 ^ k)).fmod 64=n / 64 ^ k % 64:=λk=>by rw[Dc n (AU (qrd k)),FY _ (by decide)]
  have f0:n.fmod 64=n % 64:=FY _ (by decide);have key:∀(p:Nat->Bool) (k:Nat),(∀j,1<=j->j<=5->p j=decide (j<=k))->k<=5->((([5,4,3,2,1]:List Nat).filter p).map λk=>(n.fdiv (64 ^ k)).fmod 64+64)++[n.fmod 64]=qm3 n k:=λp k hp hk=>by
    rw[DW (q:=λj=>decide (j<=k)) λj hj=>hp j (by revert j;decide) (by revert j;decide),f0];match k,hk with
    | 0,_=>rfl
    | 1,_=>simp only[qm3,<- fd];rfl
    | 2,_=>simp only[qm3,<- fd];rfl
    | 3,_=>simp only[qm3,<- fd];rfl
    | 4,_=>simp only[qm3,<- fd];rfl
    | 5,_=>simp only[qm3,<- fd];rfl
  have key2:∀k:Nat,k<=5->(∀j:Nat,1<=j->j<=5->(w==1||decide ((64:Int) ^ j<=n))=decide (j<=k))->qck n w=qm3 n k:=λk hk hp=>by
    unfold qck;rw[show ([5,4,3,2,1]:List Int)=Gx (λj:Nat=>(j:Int)) ([5,4,3,2,1]:List Nat) from rfl,List.filter_map,BL];exact key (λj=>w==1||decide ((64:Int) ^ j<=n)) k hp hk
  by_cases hw:(w==1)=Hq
  . exact ⟨5,Aq _,key2 5 (Aq _) λj h1 h2=>by rw[hw,decide_eq_true h2];rfl,h1⟩
  . rw[Bool.not_eq_true] at hw;have mono:∀{i j:Nat},i<=j->(64:Int) ^ i<=64 ^ j:=λh=>by exact_mod_cast Bq (by decide) h
    obtain ⟨k,hk,hb,hl⟩:∃k:Nat,k<=5/\n<64 ^ (k+1)/\∀j,1<=j->j<=k->(64:Int) ^ j<=n:=by
      have up:∀m:Nat,n<64 ^ (m+1)->∃k:Nat,k<=m/\n<64 ^ (k+1)/\∀j,1<=j->j<=k->(64:Int) ^ j<=n:=λm=>by
        induction m with
        | zero=>exact λh=>⟨0,Aq _,h,λj h1 h2=>absurd (Af h1 h2) (by decide)⟩
        | succ m ih=>
          intro h;by_cases g:(64:Int) ^ (m+1)<=n
          . exact ⟨m+1,Aq _,h,λj _ h2=>CE (mono h2) g⟩
          . exact (ih (He.mp g)).imp λk q=>⟨D3 q.1,q.2⟩
      exact up 5 h1
    refine ⟨k,hk,key2 k hk λj h1 h2=>?_,hb⟩;rw[hw,Fc];by_cases g:j<=k
    . rw[decide_eq_true (hl j h1 g),decide_eq_true g]
    . rw[decide_eq_false g,decide_eq_false (He.mpr (FK hb (mono (Nat.lt_of_not_le g))))]
theorem qx9 (n:Int):(n % 64+128) / 64 % 2=0:=by rw[show n % 64+128=n % 64+2*64 from rfl,qvv];rfl
theorem qx8 (y:Int):(y % 64+64+128) / 64 % 2≠0:=by rw[Gg,show y % 64+(64+128)=y % 64+3*64 from rfl,qvv];decide
theorem qx7 (y:Int)(h0:0<=y)(h:y<64):(y % 64+64+128) % 64=y:=by rw[Gg,show y % 64+(64+128)=y % 64+3*64 from rfl,qvu,Int.emod_eq_of_lt h0 h]
theorem qx6 (y:Int)(h0:0<=y)(h:y<64):(y % 64+128) % 64=y:=by rw[show y % 64+128=y % 64+2*64 from rfl,qvu,Int.emod_eq_of_lt h0 h]
theorem qtj {n w:Int}(h0:0<=n)(h1:n<64 ^ 6)(rest:List Int):pv (qo2 n w++rest)=ER (n,rest):=by
  obtain ⟨k,hk,he,hb⟩:=qlq (w:=w) h0 h1;unfold qo2;rw[he];cases k with
  | zero=>
    show qm2 ((n % 64+128) % 64) (n % 64+128) ([]++rest)=_;rw[qgz (qx9 n),qx6 n h0 hb];rfl
  | succ k=>
    have hp:=qrd (k+1);have hy0:0<=n / 64 ^ (k+1):=Eu h0 (AU hp);have hy1:n / 64 ^ (k+1)<64:=by
      apply Int.ediv_lt_of_lt_mul hp;rw[GA,<- GL];exact hb
    exact qht h0 rest k _ _ (qx8 _) (qx7 _ hy0 hy1) (Gy (Int.ediv_lt_of_lt_mul (by decide) (show n<64 ^ 5*64 from h1)) (by decide))
end
section
def D1 (d:Nat) (v:AV):Prop:=isD v=Hq/\(toP v).depth<=d
theorem D1s {f:α->AV}:∀{l:List α},(∀x∈l,D1 d (f x))->qll (l.map f)=Hq/\Fz (ql8 (l.map f))<=d
  | [],_=>⟨rfl,AJ _⟩
  | a::l,h=>by
    refine AC ?_ (D1s (l:=l) λx hx=>h x (Ak _ hx));intro h1 h2;refine AC ?_ (h a Ac);intro h3 h4;constructor
    . show (isD (f a)&&qll (l.map f))=Hq;rw[h3,h1];rfl
    . show max (toP (f a)).depth (Fz (ql8 (l.map f)))<=d;lia
theorem D1.lst {f:α->AV}{l:List α}(h:∀x∈l,D1 d (f x)):D1 (d+1) (.lst (l.map f)):=by
  refine AC ?_ (D1s h);intro h1 h2;exact ⟨h1,by show Fz (ql8 (l.map f))+1<=d+1;simp_all⟩
theorem D1.tup {f:α->AV}{l:List α}(h:∀x∈l,D1 d (f x)):D1 (d+1) (.tup (l.map f)):=by
  refine AC ?_ (D1s h);intro h1 h2;exact ⟨h1,by show Fz (ql8 (l.map f))+1<=d+1;simp_all⟩
theorem D1.int {i:Int}:D1 d (.int i):=⟨rfl,AJ _⟩
theorem D1.str (h:Bz x=Hq):D1 d (.str x):=⟨h,AJ _⟩
section
theorem Dv.of (h:D1 64 v):Dv σ v v:=⟨.inl rfl,h.1,h.2⟩
theorem Ic1 (hn:σ[n]?=ER (.lst l))(h:D1 64 (.lst l)):Dv σ (.loc n) (.lst l):=⟨.inr ⟨n,l,rfl,hn,rfl⟩,h.1,h.2⟩
theorem D1.ints {l:List Int}:D1 64 (.lst (qa0 l)):=D1.lst (d:=63) λ_ _=>D1.int
theorem D1.nil:D1 64 (.lst []):=⟨rfl,by decide⟩
theorem Dv.ints {l:List Int}:Dv σ (.lst (qa0 l)) (.lst (qa0 l)):=Dv.of D1.ints
theorem Icf {l:List Int}(hn:σ[n]?=ER (.lst (qa0 l))):Dv σ (.loc n) (.lst (qa0 l)):=Ic1 hn D1.ints
end
end
section
theorem qfk:A6 (.type "function") "tag"=pure Dt:=by kernel_rfl
theorem qc2:A6 (.type "function") "attrib"=pure Dt:=by kernel_rfl
theorem qe3:A6 (.type "function") "inner"=pure Dt:=by kernel_rfl
theorem qhl:A6 (.type "function") "append"=pure Dt:=by kernel_rfl
theorem qdt:A6 (.type "function") "makeelement"=pure Dt:=by kernel_rfl
theorem qkb:A6 (.type "function") "place"=pure Dt:=by kernel_rfl
section
theorem Ibr (h:As C k fr m σ t v m' z')(e:z'=z''):As C k fr m σ t v m' z'':=e ▸ h
theorem Ic4 (h:Ev C k fr m σ t v z')(e:z'=z'')(q:v=v'):Ev C k fr m σ t v' z'':=e ▸ q ▸ h
end
noncomputable def qdw (l:List (Option Expr)):List Expr:=l.filterMap id
theorem Ibn {vs:List Expr}{va:List AV}(kk:List Hv)(he:EvP C k fr m σ (qdw keys) vs (kk.map .str) va z')(hp:plains va=Hq)(hnd:kk.Nodup)(hkeys:autoParam (keys=(qdw keys).map ER) ap0._auto_1)(hlen:autoParam ((qdw keys).length=vs.length) ap0._auto_1)(h0:autoParam ((qdw keys).isEmpty=Hr) ap0._auto_1)(h15:autoParam (Nat.ble (qdw keys).length 15=Hq) ap0._auto_1):
    Ev C k fr m σ (.Dict keys vs p) (.loc z'.length) (z'++[.dstr kk va]):=Ev.dstr he hp hnd hkeys hlen (λh=>by rw[h] at h0;cases h0) (Cd h15)
theorem Ie8 {vs:List Expr}{va:List AV}(kk:List Int)(he:EvP C k fr m σ (qdw keys) vs (kk.map .int) va z')(hp:plains va=Hq)(hnd:kk.Nodup)(hkeys:autoParam (keys=(qdw keys).map ER) ap0._auto_1)(hlen:autoParam ((qdw keys).length=vs.length) ap0._auto_1)(h0:autoParam ((qdw keys).isEmpty=Hr) ap0._auto_1)(h15:autoParam (Nat.ble (qdw keys).length 15=Hq) ap0._auto_1):
    Ev C k fr m σ (.Dict keys vs p) (.loc z'.length) (z'++[.dint kk va]):=Ev.dint he hp hnd hkeys hlen (λh=>by rw[h] at h0;cases h0) (Cd h15)
noncomputable def qrm (names:List (Hv×AA)):Bool:=names.all λp=>p.2 != .free
theorem qnb (h:qrm names=Hq):∀(i:Nat) (x:Hv),names[i]?≠ER (x,.free):=λi x q=>by
  have:=BP.mp h _ (Av q);cases this
theorem qfc {x:AObj}(h:σ[n]?=ER x):σ.set n x=σ:=by
  apply List.ext_getElem?;intro i;rw[Ge];split
  . rename_i hi;subst hi;refine Ap (Ar.mp h) ?_;intro hn _;rw[if_pos hn,h]
  . rfl
theorem qbv {x y:AObj}(h:σ[n]?=ER x):(σ.set n y)[n]?=ER y:=by
  refine Ap (Ar.mp h) ?_;intro hn _;rw[Ge,if_pos rfl,if_pos hn]
theorem qav {m:Nat}{y:AObj}(h:n≠m):(σ.set n y)[m]?=σ[m]?:=by rw[Ge,if_neg h]
theorem qeb {x:AObj}(h:σ[n]?=ER x):n<σ.length:=(Ar.mp h).1
theorem qa6 {x:AObj}(h:σ[n]?=ER x):(σ++τ)[n]?=ER x:=by
  rw[BI (qeb h)];exact h
theorem qal (h:n=σ.length+j):(σ++τ)[n]?=τ[j]?:=by
  subst h;rw[BX (by simp +arith)];congr 1;simp
theorem set_app {x:AObj}(h:n<σ.length):(σ++τ).set n x=σ.set n x++τ:=List.set_append_left _ _ h
theorem qcw {x:AObj}(h:n=σ.length+j):(σ++τ).set n x=σ++τ.set j x:=by
  subst h;rw[List.set_append_right _ _ (by simp +arith)];congr 2;simp
end
section
noncomputable def qs2:Lam:=⟨{ posonlyargs:=[],args:=[],vararg:=Dt,kwonlyargs:=[],kw_defaults:=[],kwarg:=Dt,defaults:=[] },.Constant .none 0 ⟨0,0,0,0⟩,{ kind:=.function,names:=[],isGenerator:=Hr,isCoroutine:=Hr }⟩
noncomputable def exS (e:Expr):Lam×Expr×List Expr×List Expr×List Expr×List Expr:=match e with
  | .Lambda p b s _=>(⟨p,b,s⟩,e,[],[],[],[])
  | .ListComp x gs _ _=>(qs2,x,[],[],[],gs.map (·.iter))
  | .Call _ as kws _=>(qs2,e,kws.map (·.value),as,[],[])
  | .List es _=>(qs2,e,[],[],es,[])
  | .Tuple es _ _=>(qs2,e,[],[],es,[])
  | .BoolOp _ es _=>(qs2,e,[],[],es,[])
  | .Compare _ _ es _=>(qs2,e,[],[],es,[])
  | _=>(qs2,e,[],[],[],[])
noncomputable def qud (e:Expr):Lam:=(exS e).1
noncomputable def qxe (e:Expr):Expr:=(exS e).2.1
noncomputable def kwE (e:Expr) (i:Nat):Expr:=(exS e).2.2.1.getD i e
theorem CloIn.of {l:Lam}{ns:List Hv}{caps:List AV}(js:List (Option Nat))(hk:l.scope.kind=.function)(hc:l.scope.isCoroutine=Hr)(hg:l.scope.isGenerator=Hr)(h:qoa (ns.map λx=>(x,.cell)) l.scope.names js=Hq)(hn:ndB l.scope.names=Hq)(hpl:plains caps=Hq):CloIn l ns caps (qg5 (caps.map ER) js):=by
  refine AC ?_ (qhd h);intro h1 h2;refine ⟨hk,hc,hg,qtu hn,by rw[qg5,Ah];exact h1,λi x hi=>?_,λi x k hi hkk av hav=>?_,.inr λi av hav=>?_⟩
  . refine qgb (h2 i x _ hi) ?_;intro _ h3 _;refine qa2 (h3 rfl) ?_;intro j kd' h4 h5 _;rw[Ao] at h5;cases e:ns[j]? with
    | none=>rw[e] at h5;cases h5
    | some y=>
      rw[e] at h5;injection h5 with h5
      injection h5 with h5 _
      subst h5;refine ⟨j,e,λav hav=>?_⟩;rw[qg5,Ao,h4] at hav;simp only[Option.map_some,Option.bind_some] at hav;rw[Ao] at hav;cases e2:caps[j]? with
      | none=>rw[e2] at hav;cases hav
      | some v=>rw[e2] at hav;injection hav
  . refine qgb (h2 i x k hi) ?_;intro _ _ h3;rw[qg5,Ao,h3 hkk] at hav;cases hav
  . rw[qg5,Ao] at hav;cases e:js[i]? with
    | none=>rw[e] at hav;cases hav
    | some j=>
      rw[e] at hav;cases j with
      | none=>cases hav
      | some j=>
        simp only[Option.map_some,Option.bind_some] at hav;rw[Ao] at hav;cases e2:caps[j]? with
        | none=>rw[e2] at hav;cases hav
        | some v=>
          rw[e2] at hav;injection hav with hav
          injection hav with hav
          subst hav;have:∀(l:List AV) (j:Nat),plains l=Hq->∀v,l[j]?=ER v->plain v=Hq:=by
            intro l;induction l with
            | nil=>intro j _ v h;simp at h
            | cons a l ih=>
              intro j hp v h;have hp':(plain a&&plains l)=Hq:=hp;rw[AH] at hp';cases j with
              | zero=>simp at h;subst h;exact hp'.1
              | succ j=>exact ih j hp'.2 v (by simpa using h)
          exact this _ _ hpl _ e2
end
section
section
variable {X Z:Type} {t2 iter2:Expr}
theorem Ibx (hg:gens[0]?=ER ⟨t,iter,[],0⟩)(hg2:gens[1]?=ER ⟨t2,iter2,[],0⟩)(xs:List X)(enc:X->AV)(ys:X->List Z)(enc2:X->Z->AV)(f:X->Z->AV)(M1:X->List (Option AV))(hA:∀x∈xs,As C k fr m σ t (enc x) (M1 x) σ)(ai2:X->AIt)(hI:∀x∈xs,ItE C k fr (M1 x) σ iter2 (ai2 x) σ)(M2:X->Z->List (Option AV))(hA2:∀x∈xs,∀y∈ys x,As C k fr (M1 x) σ t2 (enc2 x y) (M2 x y) σ)(hE:∀x∈xs,∀y∈ys x,Ev C k fr (M2 x y) σ elt (f x y) σ)(hw:∀x,Weak (M1 x) m)(hw2:∀x y,Weak (M2 x y) (M1 x))(hf:∀x y,plain (f x y)=Hq)(hx:ai.items=xs.map enc)(hy:∀x,x∈xs->(ai2 x).items=(ys x).map (enc2 x))(hl:gens[2]?=Dt)(hO:ai.Ok σ)(hO2:∀x,(ai2 x).Ok σ)(hp:ai.plain=Hq)(hp2:∀x,(ai2 x).plain=Hq)(ht:ai.pairs=Hq->∃elts n p,t=.Tuple elts n p)(ht2:∀x,(ai2 x).pairs=Hq->∃elts n p,t2=.Tuple elts n p)(hs:∀x env,BG iter2 env x=pure x)(hz:(xs.flatMap λx=>ys x).length<=2 ^ 20):
    CompC C k fr elt gens scope pos 0 ai 0 m σ [] m σ (xs.flatMap λx=>(ys x).map (f x)):=by
  have hle:∀l:List X,(l.flatMap λx=>(ys x).map (f x)).length<=(l.flatMap λx=>ys x).length:=by
    intro l;induction l with
    | nil=>simp
    | cons a l ih=>
      rw[BH,BH,An,An,Ah];simp +arith
  have e:∀(x:X) (l:List Z),l.flatMap (λy=>[f x y])=l.map (f x):=λx l=>by
    induction l with
    | nil=>rfl
    | cons y l ih=>rw[BH,ih];rfl
  have hin:∀x∈xs,∀acc:List AV,acc.length+((ys x).map (f x)).length<=Ai->CompC C k fr elt gens scope pos 1 (ai2 x) 0 (M1 x) σ acc (M1 x) σ (acc++(ys x).map (f x)):=by
    intro x hx' acc ha;have h:=Ibi (C:=C) (k:=k) (fr:=fr) (elt:=elt) (scope:=scope) (pos:=pos) (acc:=acc) (m:=M1 x) (d:=1) hg2 (hO2 x) (hp2 x) (ht2 x) (ys x) (enc2 x) (λy=>[f x y]) (hy x hx')
      (λy acc hy' ha'=>⟨M2 x y,M2 x y,Hq,hA2 x hx' y hy',Tests.nil,.inl ⟨rfl,Ibf hl (hE x hx' y hy') (hf x y) (by simp at ha';lia)⟩,hw2 x y⟩) (by intro g' h;rw[hl] at h;cases h) (by rw[e];exact ha)
    rw[e] at h;exact h
  have h:=Ibi (C:=C) (k:=k) (fr:=fr) (elt:=elt) (scope:=scope) (pos:=pos) (acc:=[]) (m:=m) (d:=0) hg hO hp ht xs enc (λx=>(ys x).map (f x)) hx
    (λx acc hx' ha=>⟨M1 x,M1 x,Hq,hA x hx',Tests.nil,.inl ⟨rfl,Idf hg2 (hI x hx') (hin x hx' acc ha) (hs)⟩,hw x⟩) (by intro g' h;rw[hg2] at h;obtain rfl:=Sj h;rfl) (by
      have:=hle xs;rw[Dk,AB];lia)
  exact h
end
end
section
noncomputable def qw0 (outer names:List (Hv×AA)):Bool:=names.all λp=>p.2 != .free||(Ae outer.length).any λj=>match outer[j]? with | some (y,kd)=>y==p.1&&kcl kd==1 | none=>Hr
noncomputable def qwg (outer names:List (Hv×AA)) (p:Hv×Nat×Nat):Bool:=(names[p.2.1]?).any (λy=>decide (y.2=.free)&&y.1==p.1)&&(outer[p.2.2]?).any λy=>y.1==p.1&&DV (kcl y.2) 1
noncomputable def qwh (outer names:List (Hv×AA)) (ns:List Hv) (js:List (Nat×Nat)):Bool:=DV js.length ns.length&&(ns.zip js).all (qwg outer names)
theorem ql6 {a b:Bool}(h:(a&&b)=Hq):a=Hq/\b=Hq:=by rwa[AH] at h
theorem qei {f:α->Bool}{o:Option α}(h:o.any f=Hq):∃x,o=ER x/\f x=Hq:=by
  cases o with
  | none=>exact nomatch h
  | some x=>exact ⟨x,rfl,h⟩
theorem qs0 {outer:List (Hv×AA)}{l:Nat}(h:qwg outer names (x,l,j)=Hq):∃kd,names[l]?=ER (x,.free)/\outer[j]?=ER (x,kd)/\kcl kd=1:=by
  obtain ⟨h1,h2⟩:=ql6 h;obtain ⟨⟨y,_⟩,e1,h1⟩:=qei h1;obtain ⟨⟨z,kd⟩,e2,h2⟩:=qei h2;obtain ⟨a1,a2⟩:=ql6 h1;obtain ⟨b1,b2⟩:=ql6 h2;obtain rfl:=of_decide_eq_true a1;obtain rfl:=EI a2;obtain rfl:=EI b1;exact ⟨kd,e1,e2,EY b2⟩
theorem qs1 {outer:List (Hv×AA)}{ns:List Hv}{js:List (Nat×Nat)}(h:qwh outer names ns js=Hq):js.length=ns.length/\∀(i:Nat) (x:Hv),ns[i]?=ER x->∃l j kd,js[i]?=ER (l,j)/\names[l]?=ER (x,.free)/\outer[j]?=ER (x,kd)/\kcl kd=1:=by
  obtain ⟨h1,h2⟩:=ql6 h;have hl:=EY h1;refine ⟨hl,λi x hx=>?_⟩;have hj:js[i]?=ER (js[i]'(hl ▸ (Ar.mp hx).1)):=Aj _;generalize js[i]'(hl ▸ (Ar.mp hx).1)=p at hj;obtain ⟨l,j⟩:=p;exact (qs0 (BP.mp h2 (x,l,j) (Av (List.getElem?_zip_eq_some.mpr ⟨hx,hj⟩)))).imp' (λ_=>l) λkd q=>⟨j,kd,hj,q⟩
theorem LamCap.of {ns:List Hv}{caps:List AV}(js:List (Nat×Nat))(h1:qwh C.nm names ns js=Hq)(h2:js.map (λp=>(m[p.2]?).join)=caps.map ER)(h3:qw0 C.nm names=Hq):LamCap C m names ns caps:=by
  refine AC ?_ (qs1 h1);intro hl hat;refine ⟨λi x hx=>?_,λi x hx=>?_,?_⟩
  . have:=BP.mp h3 (x,.free) (Av hx);simp only[Bool.or_eq_true,bne_self_eq_false,Bj,false_or,E8] at this;refine qa4 (this) ?_;intro j _ hj;cases e:C.nm[j]? with
    | none=>rw[e] at hj;cases hj
    | some p=>
      rw[e] at hj;obtain ⟨y,kd⟩:=p;simp at hj;exact ⟨j,kd,by rw[e,hj.1],hj.2⟩
  . refine qa1 (hat i x hx) ?_;intro l j kd a b c d;have:(js.map (λp=>(m[p.2]?).join))[i]?=ER ((m[j]?).join):=by rw[Ao,a];rfl
    rw[h2,Ao] at this;cases e:caps[i]? with
    | none=>rw[e] at this;cases this
    | some av=>
      rw[e] at this;simp at this;refine ⟨l,j,kd,av,b,c,d,?_,rfl⟩;cases e2:m[j]? with
      | none=>rw[e2] at this;cases this
      | some o=>rw[e2] at this;simp at this;rw[this]
  . have:=congrArg List.length h2;rw[Ah,Ah] at this;lia
theorem qqf {a b:Hv}(ha:Bz a=Hq)(hb:Bz b=Hq):Bz (a++b)=Hq:=by
  unfold Bz at *;rw[PySem.Str.cps_append,Array.all_append,ha,hb];rfl
theorem qhx {sep:Hv}(hs:Bz sep=Hq):∀l:List Hv,(∀a∈l,Bz a=Hq)->Bz (PySem.Str.join sep l)=Hq
  | [],_=>by simp[PySem.Str.join,Bz,PySem.Str.empty]
  | [x],h=>h x (Ac ..)
  | x::y::r,h=>by
    show Bz (x++sep++PySem.Str.join sep (y::r))=Hq;exact qqf (qqf (h x (Ac ..)) hs) (qhx hs (y::r) λa ha=>h a (Ak _ ha))
theorem qrh {sep:Hv}(hs:Bz sep=Hq)(l:List Hv)(h:∀a∈l,Bz a=Hq):Bz (FW sep l)=Hq:=by
  show Bz (Ax.Str.glued sep l)=Hq;rw[StrLaws.glued_eq_join];exact qhx hs l h
noncomputable def quv (e:Expr) (i:Nat):Expr:=(exS e).2.2.2.2.1.getD i e
noncomputable def qw3 (e:Expr):List Expr:=(exS e).2.2.2.1
end
section
theorem qrl {m:Hv->Option Hw}(G:h.Ns a m):¬h.get? a=ER (EP #[]):=λe=>by
  refine qap (G) ?_;intro o es ep ho hd _;rw[e] at ho;obtain rfl:=Sj ho;cases hd
noncomputable def qx2 (prog:Dw) (w:World) (s:Ab) (mg mb:Hv->Option Hw) (G:s.heap.Ns Br mg) (B:s.heap.Ns Bt mb) (L:s.heap.NoLimit) (Cs:∃mc,s.heap.Ns cStatics mc) (S:∃o,s.heap.get? Cy=ER o):Wd where
  prog:=prog
  w:=w
  s1:=s
  mg:=mg
  mb:=mb
  tab:=λa=>EJ s.heap a/\s.heap.get? a=ER (EP #[])
  tabEx:=λ_ h=>h.2
  gNs:=G
  bNs:=B
  nolim:=L
  gNT:=λq=>qrl G q.2
  bNT:=λq=>qrl B q.2
  cNT:=let ⟨_,h⟩:=Cs;λq=>qrl h q.2
  sm:=S
noncomputable def qi2:List Hv->Bool
  | []=>Hq
  | x::l=>!l.contains x&&qi2 l
theorem qfv:∀{l:List Hv},qi2 l=Hq->l.Nodup
  | [],_=>.nil
  | x::l,h=>by
    change (!l.contains x&&qi2 l)=Hq at h;rw[AH] at h;refine Es.mpr ⟨λq=>?_,qfv h.2⟩;have:=h.1;rw[AQ.mpr q] at this;cases this
theorem qi5:∀{l:List (Hv×AA)} {i:Nat} {x:Hv} {k:AA},(l.map (·.1)).Nodup->l[i]?=ER (x,k)->l.lookup x=ER k
  | [],i,x,k,_,h=>by simp at h
  | p::l,0,x,k,_,h=>by
    rw[List.getElem?_cons_zero] at h;obtain rfl:=Sj h;rw[AZ,beq_self_eq_true]
  | p::l,i+1,x,k,hn,h=>by
    rw[List.getElem?_cons_succ] at h;rw[Bp,Es] at hn;have hm:x∈l.map (·.1):=Bg.mpr ⟨(x,k),Av h,rfl⟩;have hne:(x==p.1)=Hr:=by
      cases hq:x==p.1 with
      | false=>rfl
      | true=>rw[EI hq] at hm;exact absurd hm hn.1
    obtain ⟨p1,p2⟩:=p;rw[AZ,hne];exact qi5 hn.2 h
noncomputable def qn9:AA->Bool
  | .free=>Hr
  | _=>Hq
theorem qup {c:Ht}{oc:Obj}{fd:BV}{vs:Array Hw}{t:Nat}(ho:W.s1.heap.get? a=ER o)(hc:W.s1.heap.get? c=ER oc)(hd:o.data=.func fd)(hcd:fd.code=.ref c)(hv:oc.data=.fields vs)(h1:vs[1]?=ER (.str fd.qualname t))(hco:fd.scope.isCoroutine=Hr)(hgen:fd.scope.isGenerator=Hr)(hcl:fd.closure=[])(hgl:fd.globals=Br)(hbl:fd.builtins=Bt)(hk:fd.scope.kind=.function)(hb:fd.body=.stmts body)(hn:fd.scope.names=nm)(nd:qi2 (nm.map (·.1))=Hq)(nf:(nm.all λp=>qn9 p.2)=Hq)(Y:Nat->Prop):qqx ⟨W,Y,nm,fd.code⟩ a fd body where
  get:=⟨o,ho,hd⟩
  nt:=λq=>by rw[W.tabEx a q] at ho;obtain rfl:=Sj ho;cases hd
  co:=hco
  gen:=hgen
  kind:=hk
  body:=hb
  code:=⟨c,oc,vs,t,hcd,hc,λq=>by rw[W.tabEx c q] at hc;obtain rfl:=Sj hc;cases hv;simp at h1,hv,h1⟩
  clo:=hcl
  glob:=hgl
  blt:=hbl
  nm:=hn.symm
  nd:=λi j x k k' hi hj=>by
    have h:=qfv nd;have e1:(nm.map (·.1))[i]?=ER x:=by rw[Ao];show Option.map _ (nm[i]?)=_;rw[show nm[i]?=ER (x,k) from hi];rfl
    have e2:(nm.map (·.1))[j]?=ER x:=by rw[Ao];show Option.map _ (nm[j]?)=_;rw[show nm[j]?=ER (x,k') from hj];rfl
    refine Ap (Ar.mp e1) ?_;intro l1 q1;refine Ap (Ar.mp e2) ?_;intro l2 q2;have hp:=B8.mp h;rcases Nat.lt_trichotomy i j with hl | hl | hl
    . exact absurd (q1.trans q2.symm) (hp i j l1 l2 hl)
    . exact hl
    . exact absurd (q2.trans q1.symm) (hp j i l2 l1 hl)
  lk:=λi x k hi=>by rw[hn];exact qi5 (qfv nd) hi
  cd:=rfl
  nofree:=λi x q=>by
    have:=BP.mp nf _ (Av q);cases this
theorem que {c:Ht}{oc:Obj}{vs:Array Hw}(hcd:cd=.ref c)(hc:W.s1.heap.get? c=ER oc)(hv:oc.data=.fields vs)(h1:(vs[1]?).isSome=Hq)(C:GH W.s1.heap c P)(hP:W.tab P)(bm:∃bm ob,W.mg "__builtins__"=ER (.ref bm)/\bm≠Bt/\W.s1.heap.get? bm=ER ob/\ob.cls=.type "module"/\ob.dict=ER Bt/\ob.data=.plain):qos W cd:=by
  refine qdf (bm) ?_;(try clear bm);intro bm ob b1 b2 b3 b4 b5 b6;have hbt:¬W.tab bm:=λq=>by rw[W.tabEx bm q] at b3;obtain rfl:=Sj b3;cases b6
  refine ⟨c,P,λY nm=>⟨hcd,C,λq=>by rw[W.tabEx c q] at hc;obtain rfl:=Sj hc;cases hv;simp at h1,hP,⟨bm,ob,b1,b2,λq=>?_,λq=>hbt (q ▸ hP),b3,b4,b5,b6⟩,λbm' q=>?_⟩⟩
  . refine qap (W.gNs) ?_;intro o es ep ho hd _;rw[q] at b3;rw[b3] at ho;obtain rfl:=Sj ho;rw[b6] at hd;cases hd
  . rw[b1] at q;cases q;exact hbt
theorem qd4 {fd:BV}{K:Frag}(X:∀a o,K.lookup a=ER o->W.s1.heap.get? a=ER o/\o.cls≠.none)(h:∀us ks,us.length=args.length->ks.length=kv.length->∃ws,(∀S,peek K S (DF fd ⟨us,kn.zip ks⟩)=ER (xs.zip ws))/\∀g h',RVs W g h' args us->RVs W g h' kv ks->RVs W g h' vs ws):qd7 W fd args kn kv xs vs:=λfr g σ s us ks R ru rk=>by
  refine qa4 (h us ks ru.length rk.length) ?_;intro ws e q;refine ⟨ws,λM A E Q hq=>?_,q g s.heap ru rk⟩;have hK:K.In s.heap:=λa o e=>by
    refine AC ?_ (X a o e);intro q1 q2;exact R.base a o q1 λt=>by rw[W.tabEx a t] at q1;obtain rfl:=Sj q1;exact q2 rfl
  exact (Looks.of_peek (M:=M) hK (e _)).here hq
theorem qpk {b:Ht}{p:Obj}(ha:h.get? a=ER o)(hb:h.get? b=ER p)(h1:o.cls≠.none)(h2:p.cls≠.none):∀c q,List.lookup c [(a,o),(b,p)]=ER q->h.get? c=ER q/\q.cls≠.none:=λc q e=>by
  rw[AZ] at e;cases h3:c==a with
  | true=>rw[h3] at e;obtain rfl:=Sj e;rw[EI h3];exact ⟨ha,h1⟩
  | false=>
    rw[h3] at e;rw[AZ] at e;cases h4:c==b with
    | true=>rw[h4] at e;obtain rfl:=Sj e;rw[EI h4];exact ⟨hb,h2⟩
    | false=>rw[h4] at e;cases e
theorem RVs.one {a:AV}{v:Hw}{r:List Hw}(q:RVs W g h (a::l) (v::r)):RV W g h a v/\RVs W g h l r:=by
  refine qa2 (q) ?_;intro v' r' e q1 q2;cases e;exact ⟨q1,q2⟩
theorem RVs.two {a:AV}{v:Hw}{r:List Hw}(q1:RV W g h a v)(q2:RVs W g h l r):RVs W g h (a::l) (v::r):=⟨v,r,rfl,q1,q2⟩
theorem RVs.none:RVs W g h [] []:=rfl
theorem qib:∀{vs:List Hw} {ns:List Int},Hn vs ns->RVs W g h (qa0 ns) vs
  | _,_,.nil=>rfl
  | _,_,.cons _ t r=>⟨_,_,rfl,⟨t,rfl⟩,qib r⟩
noncomputable def qop (a:Ht):Ht->Own:=by classical exact λb=>if b=a then .fz else .other
theorem qwx (W:Wd)(a:Ht)(ho:W.s1.heap.get? a=ER o)(hc:o.cls≠.none)(hg:W.s1.gens=#[]):Rep W [] (qop a) [] W.s1:=by
  have hgc:∀b,qop a b=.fz\/qop a b=.other:=λb=>by unfold qop;split <;> simp
  have hx:∀b n,¬(qop a b=.loc n\/qop a b=.aux n):=λb n q=>by rcases hgc b with e | e <;> rw[e] at q <;> simp at q
  exact { base:=λb o h _=>h
          baseO:=λb o h=>(hgc b).symm
          tabO:=λb h=>by
            unfold qop;split
            . rename_i e;rw[e] at h;rw[W.tabEx a h] at ho;obtain rfl:=Sj ho;exact absurd rfl hc
            . rfl
          tabs:=λb h=>⟨#[],W.tabEx b h,trivial,λpos v q=>by simp[E5] at q⟩
          low:=λb h=>by
            unfold qop at h;split at h
            . rename_i e;rw[e];exact ⟨o,ho⟩
            . exact absurd rfl h
          locs:=λn ao h=>by simp at h
          uniq:=λb c n h=>absurd (.inl h) (hx b n)
          pl:=λn ao h=>by simp at h
          bnd:=λb n h=>absurd h (hx b n)
          frs:=λe h=>by cases h
          gens:=hg
          os:=rfl }
theorem qrg {s':Ab}(R':Rep W [] g' z' s')(hcd:∀P,W.tab P->EJ W.s1.heap P):OldK W.s1.heap s'.heap:=by
  have key:∀b o,W.s1.heap.get? b=ER o->¬W.tab b->s'.heap.get? b=ER o:=λb o h t=>R'.base b o h t
  refine ⟨λb o h=>?_,λb o h=>?_⟩
  . by_cases ht:W.tab b
    . refine qa4 (R'.tabs b ht) ?_;intro more h1 _;have:=W.tabEx b ht;rw[h] at this;obtain rfl:=Sj this;exact .inr (.inl ⟨hcd b ht,rfl,#[],more,rfl,by rw[Array.empty_append];exact h1⟩)
    . exact .inl (key b o h ht)
  . by_cases ht:W.tab b
    . refine qa4 (R'.tabs b ht) ?_;intro more h1 _;exact ⟨_,h1⟩
    . exact ⟨o,key b o h ht⟩
theorem qtc {c:Ht}(C:GH h c P)(hP:h.get? P=ER (EP #[])):EJ h P/\h.get? P=ER (EP #[]):=by
  refine qfs (C) ?_;intro o vs file tf flags tg inF text tt h1 h2 h3 h4 _;exact ⟨⟨c,o,vs,h1,h2,h3,h4⟩,hP⟩
end
section
noncomputable def qwk (e:Dj) (p:Int×Hv):Bool:=
  match e.key with
  | .int k _=>match e.val with
    | .str s _=>decide (k=p.1)&&decide (e.hash=hashInt k)&&s==p.2
    | _=>Hr
  | _=>Hr
noncomputable def qvf:List Dj->List (Int×Hv)->Bool
  | [],[]=>Hq
  | e::es,p::l=>qwk e p&&qvf es l
  | _,_=>Hr
theorem qo0 {e:Dj}{p:Int×Hv}(h:qwk e p=Hq):∃t u,e=⟨hashInt p.1,.int p.1 t,.str p.2 u⟩:=by
  obtain ⟨x,k,v⟩:=e;cases k with
  | int k t=>
    cases v with
    | str s u=>
      obtain ⟨h1,h2⟩:=Ay.mp h;obtain ⟨h3,h4⟩:=Ay.mp h1;have e1:=of_decide_eq_true h3;have e2:=of_decide_eq_true h4;have e3:=EI h2;subst e1 e3;exact ⟨t,u,congrArg (λy=>Dj.mk y _ _) e2⟩
    | _=>exact CB h
  | _=>exact CB h
theorem qme (prog:Dw)(w:World):∀{es:List Dj} {l:List (Int×Hv)},qvf es l=Hq->∃us,(∀e∈es,∃k,(Hy prog w).is k e.key=Hq/\e.hash=(Hy prog w).hash k)/\Pairs (Hy prog w) es ((l.map (·.1)).zip us)/\StrsAre us (l.map (·.2))/\us.length=l.length
  | [],[]=>λ_=>⟨[],(λ_ h=>absurd h BN),.nil,.nil,rfl⟩
  | [],_::_=>λh=>CB h
  | _::_,[]=>λh=>CB h
  | e::es,p::l=>λh=>by
    obtain ⟨h1,h2⟩:=Ay.mp h;refine qkm (qo0 h1) ?_;intro t u eq_4_2;subst eq_4_2;refine qbl (qme prog w h2) ?_;intro us g1 g2 g3 g4;have hi:(Hy prog w).is p.1 (.int p.1 t)=Hq:=by show Value.isInt p.1 (.int p.1 t)=Hq;simp[Value.isInt]
    refine ⟨.str p.2 u::us,λe he=>?_,.cons hi rfl g2,.cons p.2 u g3,congrArg (· + 1) g4⟩;rcases Aw.mp he with rfl | he
    . exact ⟨p.1,hi,rfl⟩
    . exact g1 e he
theorem qph {es:Array Dj}{ep:Nat}{l:List (Int×Hv)}(ho:W.s1.heap.get? a=ER o)(hs:(a==Cy)=Hr)(hx:o.ExactDict)(hd:o.data=.dict es ep)(h:qvf es.toList l=Hq)(hn:(l.map (·.1)).Nodup):qiu W a l where
  nt:=λq=>by rw[W.tabEx a q] at ho;obtain rfl:=Sj ho;cases hd
  ns:=hs
  at_:=by
    refine qbl (qme W.prog W.w h) ?_;intro us h1 h2 h3 h4;refine ⟨us,⟨o,es,ep,ho,hx,hd,λe he=>h1 e (by simpa using he),h2,?_⟩,h3⟩;rw[List.map_fst_zip (by simp[h4])];exact hn
theorem qux (ho:W.s1.heap.get? a=ER o)(hx:o.ExactDict)(hd:o.data=.dict #[] 0)(hs:(a==Cy)=Hr)(σ:List AObj):Dsrc W σ (.glob (.ref a)) [] []:=
  .inr ⟨a,rfl,rfl,rfl,⟨o,#[],0,ho,hx,hd,λe he=>absurd he (by simp),.nil,.nil⟩,(λq=>by rw[W.tabEx a q] at ho;obtain rfl:=Sj ho;cases hd),hs⟩
theorem qfz {β:Type}{f:α->β->Sem (ForInStep β)}(g:β->α->β)(P:β->Prop):∀(l:List α) (b:β),P b->(∀a∈l,∀b,P b->f a b=pure (.yield (g b a))/\P (g b a))->forIn l b f=pure (l.foldl g b)
  | [],b,_,_=>rfl
  | a::l,b,hb,h=>by
    obtain ⟨h1,h2⟩:=h a Ac b hb;rw[Cg,h1];exact qfz g P l _ h2 λx hx=>h x (Ak _ hx)
theorem qif {S:Type}(s:S):∀(l:List (Hv×Hw)) (e:List (Hv×Hw)),l.foldl (λ(r:S×List (Hv×Hw)) a=>(r.1,r.2++[a])) (s,e)=(s,e++l)
  | [],e=>by simp
  | a::l,e=>by rw[Fs,qif s l];simp
theorem ql4 {fd:BV}{a1 a2 a3 kw:Arg}{kd:List (Option Expr)}{ds:List Expr}(hp:fd.params={ posonlyargs:=[],args:=[a1,a2,a3],vararg:=Dt,kwonlyargs:=[],kw_defaults:=kd,kwarg:=ER kw,defaults:=ds })(h1:a1.arg="parent")(h2:a2.arg="tag")(h3:a3.arg="attrib")(hx:kw.arg="extra"){l:List (Hv×Hw)}(hl:∀p∈l,p.1∉(["parent", "tag", "attrib"]:List Hv))(hz:l.length<=Ai+1)(u:List Hw):
    ∃k,DF fd ⟨u,l⟩=(G9 fd.defaults) >>= k/\(∀d u1 u2 u3,u=[u1,u2,u3]->k (ER #[d])=(do
        let D <- alloc { cls:=.type "dict",data:=.dict #[] }
        forIn l Ck (λkv _=>do nsSet D kv.1 kv.2;pure (.yield Ck))
        pure ([("parent",u1),("tag",u2),("attrib",u3),("extra",.ref D)]:List (Hv×Hw))))/\(∀d u1 u2,u=[u1,u2]->k (ER #[d])=(do
        let D <- alloc { cls:=.type "dict",data:=.dict #[] }
        forIn l Ck (λkv _=>do nsSet D kv.1 kv.2;pure (.yield Ck))
        pure ([("parent",u1),("tag",u2),("attrib",d),("extra",.ref D)]:List (Hv×Hw)))):=by
  obtain ⟨f1,f2,pr,f4,f5,f6,f7,f8,f9,f10,f11,f12,f13,f14,f15⟩:=fd;obtain rfl:pr=_:=hp;obtain ⟨_,b1,c1⟩:=a1;obtain rfl:_=("parent":Hv):=h1;obtain ⟨_,b2,c2⟩:=a2;obtain rfl:_=("tag":Hv):=h2;obtain ⟨_,b3,c3⟩:=a3;obtain rfl:_=("attrib":Hv):=h3;obtain ⟨_,b4,c4⟩:=kw;obtain rfl:_=("extra":Hv):=hx;have hc:∀a∈l,¬(((["parent", "tag", "attrib"]:List Hv).contains a.1||([]:List Hv).contains a.1)=Hq):=λa ha q=>hl a ha (AQ.mp (((Bool.or_false _).symm.trans q)))
  have hf:=qif (S:=List (Hv×Hw)) ((["parent", "tag", "attrib"]:List Hv).zip u) l [];refine ⟨_,Eq.trans (congrArg (· >>= _) ((qfz (β:=List (Hv×Hw)×List (Hv×Hw)) (λr a=>(r.1,r.2++[a])) (λ_=>True) l ((["parent", "tag", "attrib"]:List Hv).zip u,[]) trivial λa ha b _=>⟨if_neg (hc a ha),trivial⟩).trans (congrArg pure hf))) (Eq.refl _),λd u1 u2 u3 e=>?_,λd u1 u2 e=>?_⟩
  . subst e;exact (if_neg (A9.mpr hz)).trans rfl
  . subst e;exact (if_neg (A9.mpr hz)).trans rfl
end
section
theorem qro (prog:Dw)(w:World)(s:Ab)(mg mb:Hv->Option Hw)(G:s.heap.Ns Br mg)(B:s.heap.Ns Bt mb)(L:s.heap.NoLimit)(Cs:∃mc,s.heap.Ns cStatics mc/\mc "sys.int_max_str_digits"=Dt)(S:∃o,s.heap.get? Cy=ER o):
    ∃W:Wd,W.w=w/\W.s1=s/\W.mg=mg/\W.mb=mb/\W.prog=prog/\(∀a,W.tab a↔(EJ s.heap a/\s.heap.get? a=ER (EP #[]))):=
  ⟨qx2 prog w s mg mb G B L (let ⟨m,h,_⟩:=Cs;⟨m,h⟩) S,rfl,rfl,rfl,rfl,rfl,λ_=>Iff.rfl⟩
noncomputable def qna:AA->Bool
  | .cell=>Hr
  | _=>Hq
theorem qtt (h:(nm.all λp=>qna p.2)=Hq)(i:Nat)(x:Hv):nm[i]?≠ER (x,.cell):=λq=>by
  have:=BP.mp h _ (Av q);cases this
section
variable {fd:BV} {K:Frag}
theorem bp1 {x0:Hv}(h:∀S u0,peek [] S (DF fd ⟨[u0],[]⟩)=ER [(x0,u0)])(v0:AV):qd7 W fd [v0] [] [] [x0] [v0]:=
  qd4 (K:=[]) (λ_ _ e=>nomatch e) λus ks hu hk=>by
    refine Ap (ln1 hu) ?_;intro u0 eq_0_1;subst eq_0_1;obtain rfl:=ln0 hk;exact ⟨[u0],λS=>h S u0,λg h ra _=>ra⟩
theorem bp2 {x0 x1:Hv}(h:∀S u0 u1,peek [] S (DF fd ⟨[u0,u1],[]⟩)=ER [(x0,u0),(x1,u1)])(v0 v1:AV):qd7 W fd [v0,v1] [] [] [x0,x1] [v0,v1]:=
  qd4 (K:=[]) (λ_ _ e=>nomatch e) λus ks hu hk=>by
    refine qkm (ln2 hu) ?_;intro u0 u1 eq_0_2;subst eq_0_2;obtain rfl:=ln0 hk;exact ⟨[u0,u1],λS=>h S u0 u1,λg h ra _=>ra⟩
variable {t:Nat} (X : ∀ a o, K.lookup a = ER o -> W.s1.heap.get? a = ER o /\ o.cls ≠ .none)
include X
theorem bk2 (h:∀S u0 u1 k0,peek K S (DF fd ⟨[u0,u1],[("key",k0)]⟩)=ER ([("a",u0),("x",u1),("lo",.int 0 t),("hi",.none),("key",k0)]:List (Hv×Hw)))(a x key:AV):qd7 W fd [a,x] ["key"] [key] ["a", "x", "lo", "hi", "key"] [a,x,.int 0,.none,key]:=
  qd4 X λus ks hu hk=>by
    refine qkm (ln2 hu) ?_;intro u0 u1 eq_0_2;subst eq_0_2;refine Ap (ln1 hk) ?_;intro k0 eq_1_1;subst eq_1_1;exact ⟨[u0,u1,.int 0 t,.none,k0],λS=>h S u0 u1 k0,λg h ra rk=>.two ra.one.1 (.two ra.one.2.one.1 (.two ⟨t,rfl⟩ (.two rfl rk)))⟩
theorem bk3 (h:∀S u0 u1 u2 k0,peek K S (DF fd ⟨[u0,u1,u2],[("key",k0)]⟩)=ER ([("a",u0),("x",u1),("lo",u2),("hi",.none),("key",k0)]:List (Hv×Hw)))(a x lo key:AV):qd7 W fd [a,x,lo] ["key"] [key] ["a", "x", "lo", "hi", "key"] [a,x,lo,.none,key]:=
  qd4 X λus ks hu hk=>by
    refine qn5 (ln3 hu) ?_;intro u0 u1 u2 eq_0_3;subst eq_0_3;refine Ap (ln1 hk) ?_;intro k0 eq_1_1;subst eq_1_1;exact ⟨[u0,u1,u2,.none,k0],λS=>h S u0 u1 u2 k0,λg h ra rk=>.two ra.one.1 (.two ra.one.2.one.1 (.two ra.one.2.one.2.one.1 (.two rfl rk)))⟩
theorem bk4 (h:∀S u0 u1 u2 u3 k0,peek K S (DF fd ⟨[u0,u1,u2,u3],[("key",k0)]⟩)=ER ([("a",u0),("x",u1),("lo",u2),("hi",u3),("key",k0)]:List (Hv×Hw)))(a x lo hi key:AV):qd7 W fd [a,x,lo,hi] ["key"] [key] ["a", "x", "lo", "hi", "key"] [a,x,lo,hi,key]:=
  qd4 X λus ks hu hk=>by
    obtain ⟨u0,u1,u2,u3,rfl⟩:=ln4 hu;obtain ⟨k0,rfl⟩:=ln1 hk;exact ⟨[u0,u1,u2,u3,k0],λS=>h S u0 u1 u2 u3 k0,λg h ra rk=>.two ra.one.1 (.two ra.one.2.one.1 (.two ra.one.2.one.2.one.1 (.two ra.one.2.one.2.one.2.one.1 rk)))⟩
theorem bn4 (h:∀S u0 u1 u2 u3,peek K S (DF fd ⟨[u0,u1,u2,u3],[]⟩)=ER ([("a",u0),("x",u1),("lo",u2),("hi",u3),("key",.none)]:List (Hv×Hw)))(a x lo hi:AV):qd7 W fd [a,x,lo,hi] [] [] ["a", "x", "lo", "hi", "key"] [a,x,lo,hi,.none]:=
  qd4 X λus ks hu hk=>by
    obtain ⟨u0,u1,u2,u3,rfl⟩:=ln4 hu;obtain rfl:=ln0 hk;exact ⟨[u0,u1,u2,u3,.none],λS=>h S u0 u1 u2 u3,λg h ra rk=>.two ra.one.1 (.two ra.one.2.one.1 (.two ra.one.2.one.2.one.1 (.two ra.one.2.one.2.one.2.one.1 (.two rfl .none))))⟩
theorem bn2 (h:∀S u0 u1,peek K S (DF fd ⟨[u0,u1],[]⟩)=ER ([("a",u0),("x",u1),("lo",.int 0 t),("hi",.none),("key",.none)]:List (Hv×Hw)))(a x:AV):qd7 W fd [a,x] [] [] ["a", "x", "lo", "hi", "key"] [a,x,.int 0,.none,.none]:=
  qd4 X λus ks hu hk=>by
    refine qkm (ln2 hu) ?_;intro u0 u1 eq_0_2;subst eq_0_2;obtain rfl:=ln0 hk;exact ⟨[u0,u1,.int 0 t,.none,.none],λS=>h S u0 u1,λg h ra rk=>.two ra.one.1 (.two ra.one.2.one.1 (.two ⟨t,rfl⟩ (.two rfl (.two rfl .none))))⟩
end
theorem Binds.ok (hc:(nm.all λp=>qna p.2)=Hq)(hi:nm[i]?=ER (x,.local))(r:Binds nm xs vs (m.set i (ER v)) m'):Binds nm (x::xs) (v::vs) m m':=
  .cons hi (.inl rfl) (.inr (qtt hc)) r
theorem Binds.pl (hp:plain v=Hq)(hi:nm[i]?=ER (x,kd))(hk:kd=.local\/kd=.cell)(r:Binds nm xs vs (m.set i (ER v)) m'):Binds nm (x::xs) (v::vs) m m':=
  .cons hi hk (.inl hp) r
theorem bxt {fd:BV}{a1 a2 a3 kw:Arg}{kd:List (Option Expr)}{ds:List Expr}{T:Ht}{d:Hw}(hd:fd.defaults=.ref T)(ho:W.s1.heap.get? T=ER o)(hs:o.data=.seq #[d] n)(hp:fd.params={ posonlyargs:=[],args:=[a1,a2,a3],vararg:=Dt,kwonlyargs:=[],kw_defaults:=kd,kwarg:=ER kw,defaults:=ds })(h1:a1.arg="parent")(h2:a2.arg="tag")(h3:a3.arg="attrib")(hx:kw.arg="extra")(p tag t:AV)(kn:List Hv)(kv:List AV)(hnd:kn.Nodup)(hl:kn.length=kv.length)(hpl:plains kv=Hq)(hn:∀x∈kn,x∉(["parent", "tag", "attrib"]:List Hv))(hz:kn.length<=Ai):BindX W fd [p,tag,t] kn kv ["parent", "tag", "attrib", "extra"] [p,tag,t]:=
  BindX.of hd ho (λq=>by rw[W.tabEx T q] at ho;obtain rfl:=Sj ho;cases hs) hs hnd hl hpl λus ks hu hk=>by
    refine qn5 (ln3 hu) ?_;intro u1 u2 u3 eq_0_3;subst eq_0_3;refine qaj (ql4 hp h1 h2 h3 hx (l:=kn.zip ks) (λq hq=>hn _ (GP (a:=q.1) (b:=q.2) hq).1) (by simp;lia) [u1,u2,u3]) ?_;intro k e1 e2 _;exact ⟨k,[u1,u2,u3],e1,e2 d u1 u2 u3 rfl,λg h r=>r⟩
theorem bxd {fd:BV}{a1 a2 a3 kw:Arg}{kd:List (Option Expr)}{ds:List Expr}{T:Ht}{d:Hw}(hd:fd.defaults=.ref T)(ho:W.s1.heap.get? T=ER o)(hs:o.data=.seq #[d] n)(hp:fd.params={ posonlyargs:=[],args:=[a1,a2,a3],vararg:=Dt,kwonlyargs:=[],kw_defaults:=kd,kwarg:=ER kw,defaults:=ds })(h1:a1.arg="parent")(h2:a2.arg="tag")(h3:a3.arg="attrib")(hx:kw.arg="extra")(p tag:AV)(kn:List Hv)(kv:List AV)(hnd:kn.Nodup)(hl:kn.length=kv.length)(hpl:plains kv=Hq)(hn:∀x∈kn,x∉(["parent", "tag", "attrib"]:List Hv))(hz:kn.length<=Ai):BindX W fd [p,tag] kn kv ["parent", "tag", "attrib", "extra"] [p,tag,.glob d]:=
  BindX.of hd ho (λq=>by rw[W.tabEx T q] at ho;obtain rfl:=Sj ho;cases hs) hs hnd hl hpl λus ks hu hk=>by
    refine qkm (ln2 hu) ?_;intro u1 u2 eq_0_2;subst eq_0_2;refine qaj (ql4 hp h1 h2 h3 hx (l:=kn.zip ks) (λq hq=>hn _ (GP (a:=q.1) (b:=q.2) hq).1) (by simp;lia) [u1,u2]) ?_;intro k e1 _ e2;exact ⟨k,[u1,u2,d],e1,e2 d u1 u2 rfl,λg h r=>.two r.one.1 (.two r.one.2.one.1 (.two rfl .none))⟩
end
section
set_option genInjectivity false in
structure FView where
  params:E4
  body:FuncBody
  scope:Scope
  globals:Ht
  closure:List (Hv×Ht)
  defaults:Hw
  kwdefaults:Hw
  code:Hw
  qualname:Hv
  builtins:Ht
noncomputable def fnV:Data->Option FView
  | .func fd=>ER ⟨fd.params,fd.body,fd.scope,fd.globals,fd.closure,fd.defaults,fd.kwdefaults,fd.code,fd.qualname,fd.builtins⟩
  | _=>Dt
noncomputable def qsx (o:Option Obj):Option FView:=o.bind λo=>fnV o.data
noncomputable abbrev FView.fd (v:FView) (n:Hv) (doc pm:Hw) (an:Option Ht) (ct:Hw):BV:=⟨n,v.qualname,v.params,v.body,v.scope,v.globals,v.closure,v.defaults,v.kwdefaults,doc,pm,an,v.code,ct,v.builtins⟩
theorem qpo {d:Data}{v:FView}(h:fnV d=ER v):∃n doc pm an ct,d=.func (v.fd n doc pm an ct):=by
  cases d with
  | func fd=>
    obtain rfl:=Sj h;exact ⟨fd.name,fd.doc,fd.pyModule,fd.annotations,fd.closureTuple,rfl⟩
  | _=>exact nomatch h
theorem qid {o:Option Obj}{v:FView}(h:qsx o=ER v):∃ob n doc pm an ct,o=ER ob/\ob.data=.func (v.fd n doc pm an ct):=by
  cases o with
  | none=>exact nomatch h
  | some ob=>exact ⟨ob,(qpo h).imp λn h=>h.imp λdoc h=>h.imp λpm h=>h.imp λan h=>h.imp λct h=>⟨rfl,h⟩⟩
noncomputable def qr5:Hw->Nat
  | .bool _=>1
  | .int _ _=>2
  | .str _ _=>3
  | _=>0
theorem qww {v:Hw}(h:DV (qr5 v) 1=Hq):∃b,v=.bool b:=by
  cases v with
  | bool b=>exact ⟨b,rfl⟩
  | _=>exact nomatch h
theorem qw8 {v:Hw}(h:DV (qr5 v) 2=Hq):∃i t,v=.int i t:=by
  cases v with
  | int i t=>exact ⟨i,t,rfl⟩
  | _=>exact nomatch h
theorem qwv {v:Hw}(h:DV (qr5 v) 3=Hq):∃s t,v=.str s t:=by
  cases v with
  | str s t=>exact ⟨s,t,rfl⟩
  | _=>exact nomatch h
noncomputable def qwa (q:Hv) (v:Hw):Bool:=Value.rec (motive:=λ_=>Bool) Hr Hr Hr (λ_=>Hr) (λ_ _=>Hr) (λ_ _=>Hr) (λs _=>s==q) (λ_ _=>Hr) (λ_=>Hr) (λ_=>Hr) (λ_=>Hr) v
theorem qmi {q:Hv}{v:Hw}(h:qwa q v=Hq):∃t,v=.str q t:=by
  cases v with
  | str s t=>exact ⟨t,congrArg (Value.str · t) (EI h)⟩
  | _=>exact nomatch h
noncomputable def qwj (f:Array Hw->Bool) (d:Data):Bool:=Data.rec (motive:=λ_=>Bool) Hr (λ_=>Hr) (λ_ _=>Hr) (λ_ _=>Hr) (λ_ _ _=>Hr) (λ_ _=>Hr) (λ_=>Hr) (λ_=>Hr) (λ_=>Hr) f Hr d
theorem qnx {f:Array Hw->Bool}{d:Data}(h:qwj f d=Hq):∃vs,d=.fields vs/\f vs=Hq:=by
  cases d with
  | fields vs=>exact ⟨vs,rfl,h⟩
  | _=>exact nomatch h
noncomputable def qwl (f:Array Dj->Bool) (d:Data):Bool:=Data.rec (motive:=λ_=>Bool) Hr (λ_=>Hr) (λ_ _=>Hr) (λes _=>f es) (λ_ _ _=>Hr) (λ_ _=>Hr) (λ_=>Hr) (λ_=>Hr) (λ_=>Hr) (λ_=>Hr) Hr d
theorem qo7 {f:Array Dj->Bool}{d:Data}(h:qwl f d=Hq):∃es n,d=.dict es n/\f es=Hq:=by
  cases d with
  | dict es n=>exact ⟨es,n,rfl,h⟩
  | _=>exact nomatch h
noncomputable def qw2 (c P:Ht) (q:Hv) (vs:Array Hw):Bool:=(vs[1]?).any (qwa q)&&(decide (vs[11]?=ER (.ref P))&&(DV (qr5 (vs.getD 18 .none)) 3&&(DV (qr5 (vs.getD 7 .none)) 2&&(DV (qr5 (vs.getD 9 .none)) 1&&(DV (qr5 (vs.getD 10 .none)) 2 && !(DV c P))))))
noncomputable def qjy (c P:Ht) (q:Hv) (o:Option Obj):Bool:=o.any λo=>decide (o.cls=.type "code")&&qwj (qw2 c P q) o.data
theorem qgt {c:Ht}{q:Hv}(e:qjy c P q (h.get? c)=Hq):(∃o vs t,h.get? c=ER o/\o.data=.fields vs/\vs[1]?=ER (.str q t))/\GH h c P:=by
  obtain ⟨⟨cl,d,dt,sl⟩,hk,e⟩:=qei e;obtain ⟨e0,e⟩:=ql6 e;obtain ⟨vs,rfl,e⟩:=qnx e;obtain rfl:=of_decide_eq_true e0;obtain ⟨e1,e⟩:=ql6 e;obtain ⟨e2,e⟩:=ql6 e;obtain ⟨e3,e⟩:=ql6 e;obtain ⟨e4,e⟩:=ql6 e;obtain ⟨e5,e⟩:=ql6 e;obtain ⟨e6,e7⟩:=ql6 e;obtain ⟨v,h1,e1⟩:=qei e1;obtain ⟨t,rfl⟩:=qmi e1;have h11:=of_decide_eq_true e2;obtain ⟨f,tf,h18⟩:=qwv e3;obtain ⟨fl,tg,h7⟩:=qw8 e4;obtain ⟨b,h9⟩:=qww e5;obtain ⟨n,tt,h10⟩:=qw8 e6;have hne:c≠P:=λz=>by rw[z,Nat.beq_refl] at e7;exact nomatch e7
  exact ⟨⟨_,vs,t,hk,rfl,h1⟩,_,vs,f,tf,fl,tg,b,n,tt,hk,rfl,rfl,h11,by rw[FG,h11];rfl,h18,h7,h9,h10,hne⟩
noncomputable def qkc (l:List (Int×Hv)) (o:Option Obj):Bool:=o.any λo=>decide (o.cls=.type "dict")&&(o.dict.isNone&&(DV o.slots.size 0&&qwl (λes=>qvf es.toList l) o.data))
theorem qj0 {l:List (Int×Hv)}(e:qkc l (W.s1.heap.get? a)=Hq)(hs:(a==Cy)=Hr)(hn:(l.map (·.1)).Nodup):qiu W a l:=by
  obtain ⟨⟨cl,d,dt,sl⟩,hk,e⟩:=qei e;obtain ⟨e0,e⟩:=ql6 e;obtain ⟨e1,e⟩:=ql6 e;obtain ⟨e2,e⟩:=ql6 e;obtain ⟨es,n,rfl,e⟩:=qo7 e;obtain rfl:=of_decide_eq_true e0;obtain rfl:=Option.isNone_iff_eq_none.mp e1;have h0:sl=#[]:=Array.eq_empty_of_size_eq_zero (EY e2);subst h0;exact qph hk hs ⟨rfl,rfl,rfl⟩ rfl e hn
set_option genInjectivity false in
structure qvj where
  names:List (Option Hw)
  fns:List (Option FView)
  objs:List (Option Obj)
  ok:Bool
noncomputable def qmp (ns:List (Hv×Option Hw)) (fs:List (Ht×FView)) (as:List Ht) (chk:Heap->Bool) (s:Ab):qvj:=
  ⟨ns.map λp=>s.heap.nsMap Br p.1,fs.map λp=>qsx (s.heap.get? p.1),as.map s.heap.get?,chk s.heap⟩
noncomputable def qth (ns:List (Hv×Option Hw)) (fs:List (Ht×FView)) (os:Params->List (Ht×Obj)) (w:World):qvj:=
  ⟨ns.map (·.2),fs.map λp=>ER p.2,(os w.params).map λp=>ER p.2,Hq⟩
theorem qmo {ns:List (Hv×Option Hw)}{fs:List (Ht×FView)}{os:List (Ht×Obj)}{as:List Ht}{chk:Heap->Bool}{s:Ab}(ha:as=os.map (·.1))(e:qmp ns fs as chk s=⟨ns.map (·.2),fs.map λp=>ER p.2,os.map λp=>ER p.2,Hq⟩):
    (∀(i:Nat) (x:Hv) (v:Option Hw),ns[i]?=ER (x,v)->s.heap.nsMap Br x=v)/\(∀(i:Nat) (a:Ht) (v:FView),fs[i]?=ER (a,v)->qsx (s.heap.get? a)=ER v)/\(∀(i:Nat) (a:Ht) (o:Obj),os[i]?=ER (a,o)->s.heap.get? a=ER o)/\chk s.heap=Hq:=by
  subst ha;unfold qmp at e;rw[BL] at e;injection e with e1 e2 e3 e4
  exact ⟨λi x v h=>Gf.mp e1 _ (Av h),λi a v h=>Gf.mp e2 _ (Av h),λi a o h=>Gf.mp e3 _ (Av h),e4⟩
theorem qli (k:∀b o,h.get? b=ER o->h'.get? b=ER o)(x:∃o,h.get? a=ER o)(n:Hv):h'.nsMap a n=h.nsMap a n:=by
  refine Ap x ?_;intro o ho;unfold Heap.nsMap;rw[k a o ho,ho]
theorem qls (k:∀b o,h.get? b=ER o->h'.get? b=ER o){c:Ht}{q:Hv}(e:qjy c P q (h.get? c)=Hq):qjy c P q (h'.get? c)=Hq:=by
  cases ho:h.get? c with
  | none=>rw[ho] at e;cases e
  | some o=>rw[k c o ho,<- ho];exact e
noncomputable abbrev pN (x:Hv) (a:Ht):Hv×Option Hw:=(x,ER (.ref a))
noncomputable abbrev pZ (x:Hv):Hv×Option Hw:=(x,Dt)
noncomputable abbrev pF (a:Ht) (v:FView):Ht×FView:=(a,v)
noncomputable abbrev pO (a:Ht) (o:Obj):Ht×Obj:=(a,o)
noncomputable abbrev pC (c P:Ht) (q:Hv):Ht×Ht×Hv:=(c,P,q)
noncomputable abbrev mkV (p:Dw) (i:Nat) (c:Ht) (q:Hv) (dV kV:Hw):FView:=⟨qvd p i,.stmts (qbb p i),qak p i,Br,[],dV,kV,.ref c,q,Bt⟩
theorem qd1 {p:Dw}{c:Ht}{q:Hv}{dV kV:Hw}(hv:qsx (W.s1.heap.get? a)=ER (mkV p i c q dV kV))(hc:qjy c P q (W.s1.heap.get? c)=Hq)(hb:qbb p i=body)(hn:(qak p i).names=nm)(h1:(qak p i).isCoroutine=Hr)(h2:(qak p i).isGenerator=Hr)(h3:(qak p i).kind=.function)(nd:qi2 (nm.map (·.1))=Hq)(nf:(nm.all λp=>qn9 p.2)=Hq):∃n doc pm an ct,∀Y,qqx ⟨W,Y,nm,.ref c⟩ a ((mkV p i c q dV kV).fd n doc pm an ct) body:=by
  refine qn3 (qid hv) ?_;intro o n doc pm an ct ho hd;refine AC ?_ (qgt hc);intro ne_0_0 _;obtain ⟨oc,vs,t,k1,k2,k3⟩:=ne_0_0;exact ⟨n,doc,pm,an,ct,λY=>qup (fd:=(mkV p i c q dV kV).fd n doc pm an ct) ho k1 hd rfl k2 k3 h1 h2 rfl rfl rfl h3 (congrArg FuncBody.stmts hb) hn nd nf Y⟩
theorem qjf {c:Ht}{q:Hv}(hc:qjy c P q (W.s1.heap.get? c)=Hq)(hP:W.s1.heap.get? P=ER (EP #[]))(ht:∀a,W.tab a↔(EJ W.s1.heap a/\W.s1.heap.get? a=ER (EP #[])))(bm:∃bm ob,W.mg "__builtins__"=ER (.ref bm)/\bm≠Bt/\W.s1.heap.get? bm=ER ob/\ob.cls=.type "module"/\ob.dict=ER Bt/\ob.data=.plain):qos W (.ref c):=by
  refine AC ?_ (qgt hc);intro ne_0_0 C;obtain ⟨oc,vs,t,k1,k2,k3⟩:=ne_0_0;exact que rfl k1 k2 (by rw[k3];rfl) C ((ht P).mpr (qtc C hP)) bm
theorem qj1 (k:∀b o,h.get? b=ER o->h'.get? b=ER o){l:List (Int×Hv)}(e:qkc l (h.get? a)=Hq):qkc l (h'.get? a)=Hq:=by
  cases ho:h.get? a with
  | none=>rw[ho] at e;cases e
  | some o=>rw[k a o ho,<- ho];exact e
end
section
theorem room0:Room 100 [] callerA:=⟨rfl,by show 1+claimMargin+100<=600;decide +kernel,by decide,rfl⟩
theorem qpt {fa:Ht}{vals:List Hw}{c:ClaimW}{cl:Hv->Option Ht}{mean:ExcName->Option Hw}{args:List WData}(hc:Calls W noY k [] [] (.glob (.ref fa)) [.lst (qa0 ns)] [] [] (.bool Hq) z')(hk:k<=100)(hg:W.s1.gens=#[])(ho:W.s1.heap.get? a=ER { cls:=.type "list",data:=.seq vals.toArray })(hI:Hn vals ns)(ht:∀a,W.tab a↔(EJ W.s1.heap a/\W.s1.heap.get? a=ER (EP #[])))(hr:∀cls,c.raises args cls=Hr)(hp:c.post args (.bool Hq) args=Hq)(E:Hw->Ab->Prop):
    Hs (Hu W.prog W.w) callerA (call (.ref fa) [.ref a]) (λv s'=>GoodWG c cl mean args W.s1 (.ok (.ret v)) s') E W.s1:=by
  have R:=qwx W a ho (by simp) hg;refine hc callerA (qop a) W.s1 (.ref fa) [.ref a] [] (room0.le hk) R rfl ⟨.ref a,[],rfl,⟨a,vals.toArray,0,rfl,by unfold qop;rw[if_pos rfl],ho,by simpa using qib hI⟩,rfl⟩ rfl _ _ λv' g' s' R' e' rv=>?_
  obtain rfl:v'=.bool Hq:=rv;exact ⟨.inl ⟨_,_,[],rfl,hr,ReadsW.bool Hq,hp,λ_=>⟨List.nodup_nil,λ_ hm=>(nomatch hm)⟩⟩,qrg R' (λP q=>((ht P).mp q).1),R'.os,.of_eq R'.gens⟩
end
section
section
end
end
section
section
theorem Id3 (hg:gens[0]?=ER ⟨t,iter,[],0⟩)(hl:gens[0+1]?=Dt)(L:List AV)(S:Nat->List AObj)(Fv:Nat->AV)(M:Nat->List (Option AV))(hx:ai.items=L)(hO:∀j,ai.Ok (S j))(hp:ai.plain=Hq)(ht:ai.pairs=Hq->∃elts n p,t=.Tuple elts n p)(hA:∀j v,L[j]?=ER v->As C k fr m (S j) t v (M j) (S j))(hE:∀j v,L[j]?=ER v->Ev C k fr (M j) (S j) elt (Fv j) (S (j+1)))(hpl:∀j,j<L.length->plain (Fv j)=Hq)(hw:∀j,Weak (M j) m)(hz:L.length<=1000)(h0:S 0=σ)(h1:S L.length=z')(h2:(Ae L.length).map Fv=acc):
    CompC C k fr elt gens scope pos 0 ai 0 m σ [] m z' acc:=by
  subst h0 h1 h2;have hns:∀g',gens[0+1]?=ER g'->g'.is_async=0:=λg' h=>by rw[hl] at h;cases h
  have key:∀(r j:Nat),j+r=L.length->CompC C k fr elt gens scope pos 0 ai j m (S j) ((Ae j).map Fv) m (S L.length) ((Ae L.length).map Fv):=by
    intro r;induction r with
    | zero=>
      intro j hj;obtain rfl:j=L.length:=hj;exact CompC.done hg (hO _) (by rw[hx]) hns
    | succ r ih=>
      intro j hj;have hjl:j<L.length:=hj ▸ CO (B6 r);have hv:=Aj hjl;have next:=ih (j+1) ((CG j r).trans hj);rw[DN,AT] at next;refine CompC.turn (b:=Hq) hg (hO j) hp (by rw[hx];exact hv) ht (hA j _ hv) Tests.nil (.inl ⟨rfl,Ibf hl (hE j _ hv) (hpl j hjl) ?_⟩) (next.pre (hw j)) hns;rw[Ah,AW,AB];exact Af (Bm hjl) (Af hz (by decide))
  exact key L.length 0 (GE _)
end
end
section
section
theorem Idk (hn:σ[n]?=ER (.lst (v::l)))(hY:Y n)(hz:l.length<Ai):Calls W Y k fr σ (.glob (.builtin "list.pop")) [.loc n,.int 0] [] [] v (σ.set n (.lst l)):=λA g s vf us ks rm R rf ru rk Q E hQ=>by
  cases (rf:vf=.builtin "list.pop")
  refine qa2 (ru) ?_;intro u q eq_47_2 r1 q';subst eq_47_2;refine qa2 (q') ?_;(try clear q');intro ui q2 eq_48_2 ne_48_3 q';subst eq_48_2;obtain ⟨t,rfl⟩:=ne_48_3;cases (q':q2=[])
  refine qa1 (qey R hn r1) ?_;intro a vs m eq_50_3 hg ho hr;subst eq_50_3;have hpl:plains (v::l)=Hq:=R.pl n _ hn;have hpl:plain v=Hq/\plains l=Hq:=by have hpl:(plain v&&plains l)=Hq:=hpl;rwa[AH] at hpl
  obtain ⟨x,xs,e1,rx,rxs⟩:RVs W g s.heap (v::l) vs.toList:=hr;have e2:vs.size=xs.length+1:=by rw[<- Az,e1];rfl
  have e3:xs.length=l.length:=rxs.length;have hx:vs[0]?=ER x:=by rw[<- BB,e1];rfl
  obtain ⟨R',e'⟩:=R.updList (f:=λxs=>xs.eraseIdxIfInBounds 0) (l':=l) s.toks hn hg ho (by
    show RVs W g s.heap l (vs.eraseIdxIfInBounds 0).toList;have:(vs.eraseIdxIfInBounds 0).toList=xs:=by
      rw[Array.eraseIdxIfInBounds,dif_pos (by rw[e2];exact B6 _),Array.toList_eraseIdx,e1];rfl
    rw[this];exact rxs) hpl.2
  have M:=PySem.MeetsSeq.list_pop_at a vs m 0 t 0 x (by decide) (by rw[e2];unfold Di;simp) hx (by rw[e2,e3];exact hz);exact EG PySem.F.slot_list_pop ⟨_,ho,rfl⟩ PySem.F.entry_list_pop (PySem.F.args_list_pop_2 _ _) M ⟨ho,hQ _ _ _ R' (e'.toN hY) (rx.up e')⟩
theorem Icv (hn:σ[n]?=ER (.lst l))(hL:Lv σ v l')(hY:Y n)(hp:plains l'=Hq)(hz:l.length+l'.length<=1000):Calls W Y k fr σ (.glob (.builtin "list.extend")) [.loc n,v] [] [] .none (σ.set n (.lst (l++l'))):=λA g s vf us ks rm R rf ru rk Q E hQ=>by
  cases (rf:vf=.builtin "list.extend")
  refine qa2 (ru) ?_;intro u q eq_47_2 r1 q';subst eq_47_2;refine qa2 (q') ?_;(try clear q');intro ui q2 eq_48_2 r2 q';subst eq_48_2;cases (q':q2=[])
  refine qa1 (qey R hn r1) ?_;intro a vs m eq_50_3 hg ho hr;subst eq_50_3;refine qa1 (hL.at R r2) ?_;intro b us nb eq_51_3 ho' hr' _;subst eq_51_3;have hpl:plains l=Hq:=R.pl n _ hn;have e1:vs.size=l.length:=by rw[<- Az,hr.length]
  have e2:us.size=l'.length:=by rw[<- Az,hr'.length]
  obtain ⟨R',e'⟩:=R.updList (f:=λxs=>xs++us) (l':=l++l') s.toks hn hg ho (by
    rw[Ej];exact hr.append hr') (by rw[qai,hpl,hp];rfl)
  have hs:vs.size+us.size<=1000:=by rw[e1,e2];exact hz
  have hsl:Ai=2 ^ 24:=rfl;have M:=AutoSeq1.list_extend_list_list_0 a vs m b us nb (by
    have:Ep (vs.size+us.size)=Hr:=by
      unfold Ep;exact decide_eq_false (A9.mpr (by rw[hsl];exact Af hs (by decide)))
    rw[this,D7];exact AL) (by rw[hsl];exact Af (Af (A5 _ _) hs) (by decide)) (by rw[hsl];exact Af hs (by decide))
  exact EG PySem.F.slot_list_extend ⟨_,ho,rfl⟩ PySem.F.entry_list_extend (PySem.F.args_list_extend_2 _ _) M ⟨ho,ho',hQ _ _ _ R' (e'.toN hY) rfl⟩
end
theorem quj:∀(xs:List Hw) (i:Nat),(∀(j:Nat) v,xs[j]?=ER v->∃t,v=.int ((i+j:Nat):Int) t)->RVs W g h ((List.range' i xs.length).map λi:Nat=>AV.int (i:Nat)) xs
  | [],_,_=>rfl
  | x::xs,i,hx=>⟨x,xs,rfl,hx 0 x rfl,quj xs (i+1) λj v hv=>by
      obtain ⟨t,e⟩:=hx (j+1) v hv;exact ⟨t,by rw[e,DM];rfl⟩⟩
section
theorem Icr {y:Hv}{q':Pos}(hn:Ev C k fr m σ (.Name x q) (.glob (.type "list")) σ)(hn2:Ev C k fr m σ (.Name y q') (.glob (.type "range")) σ)(he:Evs C k fr m σ [e] [.int (n:Nat)] z')(hz:n<=1000)(hs:autoParam (∀env,CV [.Call (.Name y q') [e] [] p] env=[(Hr,eval (.Call (.Name y q') [e] [] p) env)]) ap0._auto_1)(hpl:autoParam (∀env p,(Ft p (CV [e] env)).any (·.1)=Hr) ap0._auto_1):
    Ev C k fr m σ (.Call (.Name x q) [.Call (.Name y q') [e] [] p] [] p') (.lst ((Ae n).map λi:Nat=>AV.int (i:Nat))) z':=λA env g s rm R F Q E hQ=>by
  refine C6 (hn A env g s rm R F _ _ λvf g1 s1a R1 e1a rf=>?_);obtain rfl:vf=.type "list":=rf;refine G0 (P:=λh=>∃kp,(kp=FF\/kp=ES\/kp=DX)/\Looks (Hu C.W.prog C.W.w) h (Hj (.type "list")) kp) ?_ (λh q=>q) ?_
  . rw[hs];rfl
  refine qd2 (by rw[hs];rfl) rfl ?_;rw[hs];refine PySem.Calls.spliced_cons ?_;refine C6 (hn2 A env g1 s1a rm R1 (F.up e1a) _ _ λvr g2 s2 R2 e2a rr=>?_);refine qdl (first:=[]) Kept.type he EvK.nil hpl rm R2 ((F.up e1a).up e2a) rr rfl λg3 s3 vs ks R3 e3a rf rv rk=>?_
  obtain rfl:vr=.type "range":=rf;obtain ⟨v2,q2,rfl,⟨t2,rfl⟩,r2⟩:=rv;obtain rfl:q2=[]:=r2;obtain rfl:ks=[]:=rk;refine call_range_1 ?_;refine qgb (R3.newPriv { cls:=.type "range",data:=.fields #[.int 0 s3.toks,.int ((n:Nat):Int) t2,.int 1 (s3.toks+1)] } rfl (ndf rfl rfl rfl)) ?_;intro R4 e4 p4;refine PySem.Calls.spliced_nil (Ad ?_);refine ⟨Kept.type fr g3 z' _ _ (R4.tok (s3.toks+1+1)) rfl,?_⟩;have hn':CN 0 ((n:Nat):Int) 1=(n:Nat):=by rw[rangeSize_one];split <;> simp_all
  refine call_list_range rm.handled (IsRange.new ..) (small_one (by decide) (by decide) (by simp) (by lia)) hn' (Af hz (by decide)) λh' tk acc c' hk hS hI=>?_
  have hnone:∀{b o},(s3.heap.push { cls:=.type "range",data:=.fields #[.int 0 s3.toks,.int ((n:Nat):Int) t2,.int 1 (s3.toks+1)] }).get? b=ER o->b≠(s3.heap.push { cls:=.type "range",data:=.fields #[.int 0 s3.toks,.int ((n:Nat):Int) t2,.int 1 (s3.toks+1)] }).objs.size:=λh=>BC (EQ h)
  obtain ⟨R',e'⟩:=R4.turn2 (g':=qbw g3 (s3.heap.push { cls:=.type "range",data:=.fields #[.int 0 s3.toks,.int ((n:Nat):Int) t2,.int 1 (s3.toks+1)] }).objs.size .fz) (h':=h') tk noX (λ_ h=>h.elim) (λb o hb _=>qa5 (hnone hb)) (λ_ h=>h.elim) (λb hb=>by
    by_cases q:b=(s3.heap.push { cls:=.type "range",data:=.fields #[.int 0 s3.toks,.int ((n:Nat):Int) t2,.int 1 (s3.toks+1)] }).objs.size
    . subst q;exact .inr ⟨qa3,_,hS⟩
    . rw[qa5 q];exact .inl (R4.newO hb)) (λb o hb _=>hk b o hb)
  refine hQ _ _ _ R' ((((e1a.trans e2a).trans e3a).trans e4.no).trans e'.no) ⟨_,acc,c',rfl,qa3,hS,?_⟩;obtain ⟨h1,h2⟩:=hI;have:=quj (W:=C.W) (g:=qbw g3 (s3.heap.push { cls:=.type "range",data:=.fields #[.int 0 s3.toks,.int ((n:Nat):Int) t2,.int 1 (s3.toks+1)] }).objs.size .fz) (h:=h') acc.toList 0 λj v hv=>by
    obtain ⟨t,e⟩:=h2 j v (by rw[<- BB];exact hv);exact ⟨t,by rw[e];congr 1;simp⟩
  rw[Az,h1] at this;rw[List.range_eq_range'];exact this
end
end
section
noncomputable abbrev P3:Dw:=PySem.Challenge.pw_wb0045_01
noncomputable def nm1:PSigma (λl=>(qak P3 1).names=l):=⟨_,by conv=>lhs;whnf⟩
noncomputable def bd1:PSigma (λl=>qbb P3 1=l):=⟨_,by conv=>lhs;whnf⟩
noncomputable def nm2:PSigma (λl=>(qak P3 2).names=l):=⟨_,by conv=>lhs;whnf⟩
noncomputable def bd2:PSigma (λl=>qbb P3 2=l):=⟨_,by conv=>lhs;whnf⟩
noncomputable def nm3:PSigma (λl=>(qak P3 3).names=l):=⟨_,by conv=>lhs;whnf⟩
noncomputable def bd3:PSigma (λl=>qbb P3 3=l):=⟨_,by conv=>lhs;whnf⟩
noncomputable def nm4:PSigma (λl=>(qak P3 4).names=l):=⟨_,by conv=>lhs;whnf⟩
noncomputable def bd4:PSigma (λl=>qbb P3 4=l):=⟨_,by conv=>lhs;whnf⟩
noncomputable def nm7:PSigma (λl=>(qak P3 7).names=l):=⟨_,by conv=>lhs;whnf⟩
noncomputable def bd7:PSigma (λl=>qbb P3 7=l):=⟨_,by conv=>lhs;whnf⟩
noncomputable def nm8:PSigma (λl=>(qak P3 8).names=l):=⟨_,by conv=>lhs;whnf⟩
noncomputable def bd8:PSigma (λl=>qbb P3 8=l):=⟨_,by conv=>lhs;whnf⟩
noncomputable def nm10:PSigma (λl=>(qak P3 10).names=l):=⟨_,by conv=>lhs;whnf⟩
noncomputable def bd10:PSigma (λl=>qbb P3 10=l):=⟨_,by conv=>lhs;whnf⟩
noncomputable def nm11:PSigma (λl=>(qak P3 11).names=l):=⟨_,by conv=>lhs;whnf⟩
noncomputable def bd11:PSigma (λl=>qbb P3 11=l):=⟨_,by conv=>lhs;whnf⟩
noncomputable def nm13:PSigma (λl=>(qak P3 13).names=l):=⟨_,by conv=>lhs;whnf⟩
noncomputable def bd13:PSigma (λl=>qbb P3 13=l):=⟨_,by conv=>lhs;whnf⟩
noncomputable def nm14:PSigma (λl=>(qak P3 14).names=l):=⟨_,by conv=>lhs;whnf⟩
noncomputable def bd14:PSigma (λl=>qbb P3 14=l):=⟨_,by conv=>lhs;whnf⟩
noncomputable def nm15:PSigma (λl=>(qak P3 15).names=l):=⟨_,by conv=>lhs;whnf⟩
noncomputable def bd15:PSigma (λl=>qbb P3 15=l):=⟨_,by conv=>lhs;whnf⟩
noncomputable def nm16:PSigma (λl=>(qak P3 16).names=l):=⟨_,by conv=>lhs;whnf⟩
noncomputable def bd16:PSigma (λl=>qbb P3 16=l):=⟨_,by conv=>lhs;whnf⟩
noncomputable def nm17:PSigma (λl=>(qak P3 17).names=l):=⟨_,by conv=>lhs;whnf⟩
noncomputable def bd17:PSigma (λl=>qbb P3 17=l):=⟨_,by conv=>lhs;whnf⟩
noncomputable def nm18:PSigma (λl=>(qak P3 18).names=l):=⟨_,by conv=>lhs;whnf⟩
noncomputable def bd18:PSigma (λl=>qbb P3 18=l):=⟨_,by conv=>lhs;whnf⟩
noncomputable def nm19:PSigma (λl=>(qak P3 19).names=l):=⟨_,by conv=>lhs;whnf⟩
noncomputable def bd19:PSigma (λl=>qbb P3 19=l):=⟨_,by conv=>lhs;whnf⟩
noncomputable def nm20:PSigma (λl=>(qak P3 20).names=l):=⟨_,by conv=>lhs;whnf⟩
noncomputable def bd20:PSigma (λl=>qbb P3 20=l):=⟨_,by conv=>lhs;whnf⟩
noncomputable def nm21:PSigma (λl=>(qak P3 21).names=l):=⟨_,by conv=>lhs;whnf⟩
noncomputable def bd21:PSigma (λl=>qbb P3 21=l):=⟨_,by conv=>lhs;whnf⟩
noncomputable def nm22:PSigma (λl=>(qak P3 22).names=l):=⟨_,by conv=>lhs;whnf⟩
noncomputable def bd22:PSigma (λl=>qbb P3 22=l):=⟨_,by conv=>lhs;whnf⟩
noncomputable def nm23:PSigma (λl=>(qak P3 23).names=l):=⟨_,by conv=>lhs;whnf⟩
noncomputable def bd23:PSigma (λl=>qbb P3 23=l):=⟨_,by conv=>lhs;whnf⟩
noncomputable def flagTab:List (Int×Hv):=[(1,"OPTIMIZED"),(2,"NEWLOCALS"),(4,"VARARGS"),(8,"VARKEYWORDS"),(16,"NESTED"),(32,"GENERATOR"),(64,"NOFREE"),(128,"COROUTINE"),(256,"ITERABLE_COROUTINE"),(512,"ASYNC_GENERATOR")]
noncomputable def A1:Ht:=23
noncomputable def A2:Ht:=32
noncomputable def A3:Ht:=41
noncomputable def A4:Ht:=50
noncomputable def A7:Ht:=58
noncomputable def A8:Ht:=65
noncomputable def A10:Ht:=72
noncomputable def A11:Ht:=81
noncomputable def A13:Ht:=86
noncomputable def A14:Ht:=93
noncomputable def A15:Ht:=98
noncomputable def A16:Ht:=103
noncomputable def A17:Ht:=110
noncomputable def A18:Ht:=115
noncomputable def A19:Ht:=122
noncomputable def A20:Ht:=129
noncomputable def A21:Ht:=134
noncomputable def A22:Ht:=139
noncomputable def A23:Ht:=144
noncomputable def qtd:Ht:=51
noncomputable def dA3:Hw:=.ref 73
set_option genInjectivity false in
structure Fac (W:Wd):Prop where
  g_insort_right:W.mg "insort_right" = ER (.ref A1)
  g_bisect_right:W.mg "bisect_right" = ER (.ref A2)
  g_insort_left:W.mg "insort_left" = ER (.ref A3)
  g_bisect_left:W.mg "bisect_left" = ER (.ref A4)
  g_pretty_flags:W.mg "pretty_flags" = ER (.ref A7)
  g_parse_varint:W.mg "_parse_varint" = ER (.ref A8)
  g_iselement:W.mg "iselement" = ER (.ref A10)
  g_SubElement:W.mg "SubElement" = ER (.ref A11)
  g_law_digits:W.mg "_law_digits" = ER (.ref A13)
  g_law_read:W.mg "_law_read" = ER (.ref A14)
  g_law_words:W.mg "_law_words" = ER (.ref A15)
  g_law_parts:W.mg "_law_parts" = ER (.ref A16)
  g_law_element:W.mg "_law_element" = ER (.ref A17)
  g_law_document:W.mg "_law_document" = ER (.ref A18)
  g_law_rate:W.mg "_law_rate" = ER (.ref A19)
  g_law_blocks:W.mg "_law_blocks" = ER (.ref A20)
  g_law_sets:W.mg "_law_sets" = ER (.ref A21)
  g_law_waits:W.mg "_law_waits" = ER (.ref A22)
  g_law:W.mg "law" = ER (.ref A23)
  g_COMPILER_FLAG_NAMES:W.mg "COMPILER_FLAG_NAMES" = ER (.ref qtd)
  tab:qiu W qtd flagTab
  b_StopIteration:Blt W "StopIteration" (.type "StopIteration")
  b_ValueError:Blt W "ValueError" (.type "ValueError")
  b_enumerate:Blt W "enumerate" (.type "enumerate")
  b_hasattr:Blt W "hasattr" (.builtin "hasattr")
  b_hex:Blt W "hex" (.builtin "hex")
  b_iter:Blt W "iter" (.builtin "iter")
  b_len:Blt W "len" (.builtin "len")
  b_list:Blt W "list" (.type "list")
  b_max:Blt W "max" (.builtin "max")
  b_min:Blt W "min" (.builtin "min")
  b_next:Blt W "next" (.builtin "next")
  b_range:Blt W "range" (.type "range")
  b_sorted:Blt W "sorted" (.builtin "sorted")
  b_str:Blt W "str" (.type "str")
  b_sum:Blt W "sum" (.builtin "sum")
  b_zip:Blt W "zip" (.type "zip")
  f2k2:∀(a x key:AV),FnB W NoK nm2.1 bd2.1 A2 [a,x] ["key"] [key] [ER a,ER x,ER (.int 0),ER .none,ER key,Dt,Dt,Dt]
  f2k3:∀(a x lo key:AV),FnB W NoK nm2.1 bd2.1 A2 [a,x,lo] ["key"] [key] [ER a,ER x,ER lo,ER .none,ER key,Dt,Dt,Dt]
  f2k4:∀(a x lo hi key:AV),FnB W NoK nm2.1 bd2.1 A2 [a,x,lo,hi] ["key"] [key] [ER a,ER x,ER lo,ER hi,ER key,Dt,Dt,Dt]
  f2n4:∀(a x lo hi:AV),FnB W NoK nm2.1 bd2.1 A2 [a,x,lo,hi] [] [] [ER a,ER x,ER lo,ER hi,ER .none,Dt,Dt,Dt]
  f2n2:∀(a x:AV),FnB W NoK nm2.1 bd2.1 A2 [a,x] [] [] [ER a,ER x,ER (.int 0),ER .none,ER .none,Dt,Dt,Dt]
  f4k2:∀(a x key:AV),FnB W NoK nm4.1 bd4.1 A4 [a,x] ["key"] [key] [ER a,ER x,ER (.int 0),ER .none,ER key,Dt,Dt,Dt]
  f4k3:∀(a x lo key:AV),FnB W NoK nm4.1 bd4.1 A4 [a,x,lo] ["key"] [key] [ER a,ER x,ER lo,ER .none,ER key,Dt,Dt,Dt]
  f4k4:∀(a x lo hi key:AV),FnB W NoK nm4.1 bd4.1 A4 [a,x,lo,hi] ["key"] [key] [ER a,ER x,ER lo,ER hi,ER key,Dt,Dt,Dt]
  f4n4:∀(a x lo hi:AV),FnB W NoK nm4.1 bd4.1 A4 [a,x,lo,hi] [] [] [ER a,ER x,ER lo,ER hi,ER .none,Dt,Dt,Dt]
  f4n2:∀(a x:AV),FnB W NoK nm4.1 bd4.1 A4 [a,x] [] [] [ER a,ER x,ER (.int 0),ER .none,ER .none,Dt,Dt,Dt]
  f1k2:∀(a x key:AV),FnB W NoK nm1.1 bd1.1 A1 [a,x] ["key"] [key] [ER a,ER x,ER (.int 0),ER .none,ER key,Dt]
  f1k3:∀(a x lo key:AV),FnB W NoK nm1.1 bd1.1 A1 [a,x,lo] ["key"] [key] [ER a,ER x,ER lo,ER .none,ER key,Dt]
  f1n2:∀(a x:AV),FnB W NoK nm1.1 bd1.1 A1 [a,x] [] [] [ER a,ER x,ER (.int 0),ER .none,ER .none,Dt]
  f1n4:∀(a x lo hi:AV),FnB W NoK nm1.1 bd1.1 A1 [a,x,lo,hi] [] [] [ER a,ER x,ER lo,ER hi,ER .none,Dt]
  f3k2:∀(a x key:AV),FnB W NoK nm3.1 bd3.1 A3 [a,x] ["key"] [key] [ER a,ER x,ER (.int 0),ER .none,ER key,Dt]
  f3k3:∀(a x lo key:AV),FnB W NoK nm3.1 bd3.1 A3 [a,x,lo] ["key"] [key] [ER a,ER x,ER lo,ER .none,ER key,Dt]
  f3n2:∀(a x:AV),FnB W NoK nm3.1 bd3.1 A3 [a,x] [] [] [ER a,ER x,ER (.int 0),ER .none,ER .none,Dt]
  f3n4:∀(a x lo hi:AV),FnB W NoK nm3.1 bd3.1 A3 [a,x,lo,hi] [] [] [ER a,ER x,ER lo,ER hi,ER .none,Dt]
  f11t:∀(p tag t:AV) (kn:List Hv) (kv:List AV),kn.Nodup->kn.length=kv.length->plains kv=Hq->(∀x∈kn,x∉(["parent","tag","attrib"]:List Hv))->kn.length<=Ai->FnX W nm11.1 bd11.1 A11 [p,tag,t] kn kv (λn=>[ER p,ER tag,ER t,ER (.loc n),Dt])
  dsrc:∀σ:List AObj,Dsrc W σ (.glob dA3) [] []
  f11d:∀(p tag:AV) (kn:List Hv) (kv:List AV),kn.Nodup->kn.length=kv.length->plains kv=Hq->(∀x∈kn,x∉(["parent","tag","attrib"]:List Hv))->kn.length<=Ai->FnX W nm11.1 bd11.1 A11 [p,tag] kn kv (λn=>[ER p,ER tag,ER (.glob dA3),ER (.loc n),Dt])
  f7:∀(v0:AV),FnB W NoK nm7.1 bd7.1 A7 [v0] [] [] [ER v0,Dt,Dt,Dt,Dt,Dt,Dt]
  f8:∀(v0:AV),FnB W NoK nm8.1 bd8.1 A8 [v0] [] [] [ER v0,Dt,Dt,Dt]
  f10:∀(v0:AV),FnB W NoK nm10.1 bd10.1 A10 [v0] [] [] [ER v0,Dt]
  f13:∀(v0 v1:AV),plain v0=Hq->plain v1=Hq->FnB W NoK nm13.1 bd13.1 A13 [v0,v1] [] [] [ER v0,ER v1,Dt]
  f14:∀(v0 v1:AV),FnB W NoK nm14.1 bd14.1 A14 [v0,v1] [] [] [ER v0,ER v1,Dt,Dt,Dt,Dt]
  f15:∀(v0:AV),plain v0=Hq->FnB W NoK nm15.1 bd15.1 A15 [v0] [] [] [ER v0,Dt,Dt]
  f16:∀(v0:AV),plain v0=Hq->FnB W NoK nm16.1 bd16.1 A16 [v0] [] [] [ER v0,Dt,Dt]
  f17:∀(v0 v1:AV),FnB W (qos W) nm17.1 bd17.1 A17 [v0,v1] [] [] [ER v0,ER v1,Dt,Dt]
  f18:∀(v0 v1:AV),FnB W (qos W) nm18.1 bd18.1 A18 [v0,v1] [] [] [ER v0,ER v1,Dt,Dt,Dt,Dt,Dt,Dt,Dt,Dt,Dt,Dt,Dt,Dt,Dt,Dt,Dt,Dt,Dt,Dt]
  f19:∀(v0:AV),FnB W NoK nm19.1 bd19.1 A19 [v0] [] [] [ER v0]
  f20:∀(v0 v1:AV),FnB W NoK nm20.1 bd20.1 A20 [v0,v1] [] [] [ER v0,ER v1,Dt,Dt,Dt,Dt,Dt,Dt]
  f21:∀(v0:AV),plain v0=Hq->FnB W NoK nm21.1 bd21.1 A21 [v0] [] [] [ER v0,Dt,Dt,Dt,Dt,Dt,Dt,Dt,Dt,Dt,Dt]
  f22:∀(v0 v1:AV),plain v0=Hq->plain v1=Hq->FnB W NoK nm22.1 bd22.1 A22 [v0,v1] [] [] [ER v0,ER v1,Dt,Dt]
  f23:∀(v0:AV),plain v0=Hq->FnB W (qos W) nm23.1 bd23.1 A23 [v0] [] [] [ER v0,Dt,Dt,Dt,Dt,Dt,Dt,Dt,Dt,Dt,Dt,Dt,Dt,Dt,Dt,Dt,Dt,Dt,Dt,Dt,Dt,Dt,Dt,Dt,Dt,Dt,Dt,Dt,Dt,Dt,Dt,Dt,Dt,Dt,Dt,Dt,Dt,Dt,Dt,Dt,Dt,Dt,Dt,Dt,Dt,Dt,Dt,Dt,Dt,Dt,Dt,Dt,Dt,Dt,Dt]
end
section
section
theorem Ia0 (i : Nat)(hi:autoParam (C.nm[i]? = ER (x, .local)) ap0._auto_1)(hv:autoParam (m[i]? = ER (ER v)) ap0._auto_1)(hd:autoParam ((x==("__debug__" : Hv)) = Hr) ap1._auto_1): Ev C k fr m σ (.Name x p) v σ := Ibm hi hv hd
theorem Ia5 (i : Nat)(hi:autoParam (C.nm[i]? = ER (x, kd)) ap0._auto_1)(hk:autoParam (kcl kd = 1) ap0._auto_1)(hv:autoParam (m[i]? = ER (ER v)) ap0._auto_1)(hd:autoParam ((x==("__debug__" : Hv)) = Hr) ap1._auto_1)(hn:autoParam ((x==("__classdict__" : Hv)) = Hr) ap1._auto_1): Ev C k fr m σ (.Name x p) v σ := Ie9 hi hk hv hd hn
theorem Iad (i : Nat){v:Hw}(hv : C.W.mg x = ER v)(hi:autoParam (C.nm[i]? = ER (x, .globalImplicit)) ap0._auto_1)(hd:autoParam ((x==("__debug__" : Hv)) = Hr) ap1._auto_1): Ev C k fr m σ (.Name x p) (.glob v) σ := Ie7 hi hv hd
theorem Iah (i : Nat){v:Hw}(h : Blt C.W x v)(hi:autoParam (C.nm[i]? = ER (x, .globalImplicit)) ap0._auto_1)(hd:autoParam ((x==("__debug__" : Hv)) = Hr) ap1._auto_1): Ev C k fr m σ (.Name x p) (.glob v) σ := Iej hi h hd
theorem Ia3 (i : Nat)(hi:autoParam (C.nm[i]? = ER (x, .local)) ap0._auto_1)(hp:autoParam (plain av = Hq) ap0._auto_1): As C k fr m σ (.Name x p) av (m.set i (ER av)) σ := Ibs hi hp
theorem Ibz (i : Nat)(hi:autoParam (C.nm[i]? = ER (x, .cell)) ap0._auto_1)(hp:autoParam (plain av = Hq) ap0._auto_1): As C k fr m σ (.Name x p) av (m.set i (ER av)) σ := Idb hi hp
end
theorem Uu {p:Prop}(h:autoParam (p) ap0._auto_1):p:=h
local macro_rules | `(.($t:term)) => if t.raw.isOfKind ``Lean.Parser.Term.hole || t.raw.getKind == `MVarWithIdKind then Lean.Macro.throwUnsupported else `((by with_reducible exact $t))
section
theorem qjv {n w h:Int}{t:List Int}(ht:qck n w=h::t)(hz:(h::t).length<=6):Exs ⟨W,Y,nm13.1,cd⟩ k fr [ER (.int n),ER (.int w),Dt] σ bd13.1 (.ret (.lst (qa0 ((h+128)::t)))) ([ER (.int n),ER (.int w),Dt].set 2 (ER (.lst (qa0 (h::t))))) σ:=by
  show Exs ⟨W,Y,nm13.1,cd⟩ k fr _ σ (_::_) _ _ σ;have pw:∀x:Int,x∈([5,4,3,2,1]:List Int)->((64:Int) ^ x.toNat≠0/\((64:Int) ^ x.toNat).natAbs<2 ^ 64)/\0<=x/\x<=1000000:=by
    intro x hx;simp at hx;rcases hx with rfl | rfl | rfl | rfl | rfl <;> decide
  have e1:AV.lst (Gx (λk=>AV.int ((n.fdiv (64 ^ k.toNat)).fmod 64+64)) (List.filter (λk:Int=>w==1||decide (64 ^ k.toNat<=n)) [5,4,3,2,1])++[.int (n.fmod 64)])=.lst (qa0 (h::t)):=by
    rw[<- ht,qck,qa0,AT,BL];rfl
  have hl:(qa0 (h::t)).length<=6:=by rw[qa0,Ah];exact hz
  have hz1:(Gx (λk=>AV.int ((n.fdiv (64 ^ k.toNat)).fmod 64+64)) (List.filter (λk:Int=>w==1||decide (64 ^ k.toNat<=n)) [5,4,3,2,1])).length+[AV.int (n.fmod 64)].length<=Ai:=by
    rw[Ah,AB];have:=BQ (λk:Int=>w==1||decide (64 ^ k.toNat<=n)) [5,4,3,2,1];simp at this ⊢;lia
  have hz2:[AV.int (h+128)].length+(qbo (qa0 (h::t)) (ER 1) Dt Dt).length<=Ai:=by
    rw[show qbo (qa0 (h::t)) (ER 1) Dt Dt=qa0 t from qcp _ 1,AB,qa0,Ah];simp at hz ⊢;lia
  have e2:AV.lst ([AV.int (h+128)]++qbo (qa0 (h::t)) (ER 1) Dt Dt)=.lst (qa0 ((h+128)::t)):=by
    rw[show qbo (qa0 (h::t)) (ER 1) Dt Dt=qa0 t from qcp _ 1];rfl
  have hs1:(qa0 (h::t)).length<=Ai:=by rw[AB];lia
  have hs2:qbo (qa0 (h::t)) (ER 1) Dt Dt=qa0 t:=qcp _ 1;exact .(Exs.cons .(Ia4 .(Iag .(Ia2 .(Iao .(ItE.tuple .(Ev.tuple (Evs.cons .(Ia1) .((Evs.cons .(Ia1) .((Evs.cons .(Ia1) .((Evs.cons .(Ia1) .((Evs.cons .(Ia1) .(Evs.nil)))))))))))) (CompIn.of [Dt,Dt,ER 0,ER 1] (by kernel_rfl) (by kernel_rfl)) .(Ibc Uu ([5,4,3,2,1]) (AV.int) ((λk=>w==1||decide (64 ^ k.toNat<=n))) ((λk=>AV.int ((n.fdiv (64 ^ k.toNat)).fmod 64+64))) _ (λx hx=>.(Ia3 1)) (λx hx=>.(Ib3 .(Ibt .(Tr.cmp .(Ia5 3) .(Ia1) .(Ibe)) (λ_=>.(Ib9 .(Tr.cmp .(Ia5 2) .(Ia2 .(Ia1) .(Ia0 1) (Icx (pw x hx).2.1 (pw x hx).2.2 (by decide))) .(Iei)))) (λ_=>rfl)))) (λx hx hp=>.(Ia2 .(Ia2 .(Ia2 .(Ia5 2) .(Ia2 .(Ia1) .(Ia0 1) (Icx (pw x hx).2.1 (pw x hx).2.2 (by decide))) (Iak (pw x hx).1.1 (pw x hx).1.2)) .(Ia1) .(Iat (by decide))) .(Ia1) .(Op2.add))) .(λ_=>Weak.set Uu))) .(Ev.list (Evs.cons .(Ia2 .(Ia5 0) .(Ia1) .(Iat (by decide))) .(Evs.nil))) (Iba Lv.fz Lv.fz hz1)) (e1)) .(Ia3 2 (hp:=.(qcn _)))) .(Exs.ret .(Iai .(Iag .(Ia2 .(Ev.list (Evs.cons .(Ia2 .(Iaa .(Ia0 2) .(Ia1) .(Lv.fz) (by exact qbi (j:=0) rfl rfl) (by exact hs1)) .(Ia1) .(Op2.add)) .(Evs.nil))) .(Iav .(Ia0 2) (Iau .(Ia1)) EvO.none EvO.none Lv.fz (by simp) hs1) (Iba Lv.fz Lv.fz hz2)) (e2)))))
end
section
theorem qfj {S:Type}{P:S->Prop}{sg:S->List AObj}{te:Expr}{bo:List Stmt}{M:Nat->Nat->List (Option AV)}(ht:∀(Y:Nat->Prop) (cd:Hw) (k:Nat) (fr:List HA) (σ:List AObj) (lo hi:Nat),Tr ⟨W,Y,nm,cd⟩ (k+d) fr (M lo hi) σ te (decide ((lo:Int)<(hi:Int))) σ)(step:∀(lo hi mid:Nat) (s:S),P s->lo0<=lo->hi<=hi0->lo<=mid->mid<hi->(lo+hi) / 2=mid->∃s',P s'/\∀(Y:Nat->Prop) (cd:Hw) (k:Nat) (fr:List HA),(∀n,Yk n->Y n)->Exs ⟨W,Y,nm,cd⟩ (k+d) fr (M lo hi) (sg s) bo .next (if r<=mid then M lo mid else M (mid+1) hi) (sg s')):
    ∀(n lo hi:Nat) (s:S),hi<=lo+n->lo<=r->r<=hi->lo0<=lo->hi<=hi0->P s->∃s',P s'/\∀(Y:Nat->Prop) (cd:Hw) (k:Nat) (fr:List HA),(∀n,Yk n->Y n)->WhileC ⟨W,Y,nm,cd⟩ (k+d) fr te bo [] (M lo hi) (sg s) .next (M r r) (sg s'):=by
  intro n;induction n with
  | zero=>
    intro lo hi s h1 h2 h3 h4 h5 hs;obtain rfl:lo=r:=Ci h2 (Af h3 h1);obtain rfl:hi=lo:=Ci h1 h3;exact ⟨s,hs,λY cd k fr _=>Ib1 (Iab (ht Y cd k fr (sg s) hi hi) (decide_eq_false (Fb _))) Exs.nil⟩
  | succ n ih=>
    intro lo hi s h1 h2 h3 h4 h5 hs;rcases B7 lo hi with hlt | hge
    . have hm1:lo<=(lo+hi) / 2:=by lia
      have hm2:(lo+hi) / 2<hi:=by lia
      refine qa4 (step lo hi _ s hs h4 h5 hm1 hm2 rfl) ?_;intro s1 hs1 hw;generalize (lo+hi) / 2=mid at hm1 hm2 hw;have T:=λY cd k fr=>Iab (ht Y cd k fr (sg s) lo hi) (decide_eq_true (Gz.mpr hlt))
      by_cases hm:r<=mid
      . rw[if_pos hm] at hw;exact (ih lo mid s1 (AM (Ag hm2 h1)) h2 hm h4 (Bm (Ag hm2 h5)) hs1).imp λs2 q=>⟨q.1,λY cd k fr hY=>WhileC.next (T Y cd k fr) (hw Y cd k fr hY) (q.2 Y cd k fr hY)⟩
      . rw[if_neg hm] at hw;exact (ih (mid+1) hi s1 (by lia) (DI.mp hm) h3 (Af h4 (D3 hm1)) h5 hs1).imp λs2 q=>⟨q.1,λY cd k fr hY=>WhileC.next (T Y cd k fr) (hw Y cd k fr hY) (q.2 Y cd k fr hY)⟩
    . obtain rfl:lo=r:=Ci h2 (Af h3 hge);obtain rfl:hi=lo:=Ci hge h3;exact ⟨s,hs,λY cd k fr _=>Ib1 (Iab (ht Y cd k fr (sg s) hi hi) (decide_eq_false (Fb _))) Exs.nil⟩
theorem qvh {m:Nat}:AV.int ((m:Int)+1)=.int ((m+1:Nat):Int):=rfl
theorem qqk {lo mid:Nat}(h:(lo+hi) / 2=mid):AV.int (((lo:Int)+(hi:Int)).fdiv 2)=.int ((mid:Nat):Int):=by rw[<- h];exact qtw
noncomputable def teRK:PSigma (λl=>(qiz (nth (qo3 (nth bd2.1 2)) 0))=l):=⟨_,by conv=>lhs;whnf⟩
noncomputable def boRK:PSigma (λl=>(qb4 (nth (qo3 (nth bd2.1 2)) 0))=l):=⟨_,by conv=>lhs;whnf⟩
theorem qlx {S:Type}{P:S->Prop}{sg:S->List AObj}{a:AV}{x:Int}(hL:∀s,P s->Lv (sg s) a l)(hz:l.length<=Ai)(hkp:Kept W key)(hkey:∀(j:Nat) (v:AV),l[j]?=ER v->KeyFn W d Yk sg P key v (κ j))(hhi:hi0<=l.length)(hr:∀j:Nat,lo0<=j->j<hi0->(x<κ j↔r<=j))(lo hi mid:Nat)(s:S)(hs:P s)(h4:lo0<=lo)(h5:hi<=hi0)(h1:lo<=mid)(h2:mid<hi)(hmid:(lo+hi) / 2=mid):
    ∃s',P s'/\∀(Y:Nat->Prop) (cd:Hw) (k:Nat) (fr:List HA),(∀n,Yk n->Y n)->Exs ⟨W,Y,nm2.1,cd⟩ (k+d) fr [ER a,ER (.int x),ER (.int ((lo:Nat):Int)),ER (.int ((hi:Nat):Int)),ER key,Dt,Dt,Dt] (sg s) boRK.1 .next (if r<=mid then [ER a,ER (.int x),ER (.int ((lo:Nat):Int)),ER (.int ((mid:Nat):Int)),ER key,Dt,Dt,Dt] else [ER a,ER (.int x),ER (.int ((mid+1:Nat):Int)),ER (.int ((hi:Nat):Int)),ER key,Dt,Dt,Dt]) (sg s'):=by
  obtain ⟨v,hv⟩:∃v,l[mid]?=ER v:=⟨_,Aj (Ag h2 (Af h5 hhi))⟩
  refine qa4 (hkey mid v hv s hs) ?_;intro s1 hs1 hc;refine ⟨s1,hs1,λY cd k fr hY=>?_⟩;by_cases hm:r<=mid
  . have hd:decide (x<κ mid)=Hq:=decide_eq_true ((hr mid (Af h4 h1) (Ag h2 h5)).mpr hm);rw[if_pos hm];refine Exs.post (m2:=(([ER a,ER (.int x),ER (.int ((lo:Nat):Int)),ER (.int ((hi:Nat):Int)),ER key,Dt,Dt,Dt].set 5 (ER (.int ((mid:Nat):Int)))).set 3 (ER (.int ((mid:Nat):Int))))) ?_ (by with_unfolding_all exact Ia9 224);show Exs _ _ _ _ _ (_::_) _ _ _;exact .(Exs.cons .(Ia4 .(Iag .(Ia2 .(Ia2 .(Ia0 2) .(Ia0 3) .(Op2.add)) .(Ia1) (Iak (by decide) (by decide))) (qqk hmid)) .(Ia3 5)) .(Exs.cons .(Ia6 (c:=Hq) .(Iab .(Tr.cmp .(Ia0 1) .(Ev.call .(Ia0 4) (hkp) (Evs.cons .(Iaa .(Ia0 0) .(Ia0 5) (by exact hL s hs) (by exact qbi (x:=((mid:Nat):Int)) rfl hv) (by exact hz)) .(Evs.nil)) EvK.nil (hc k fr Y hY)) .(Ial)) hd) (λ_=>.(Exs.cons .(Ia4 .(Ia0 5) .(Ia3 3)) .(Exs.nil))) (λh=>nomatch h)) .(Exs.nil)))
  . have hd:decide (x<κ mid)=Hr:=decide_eq_false λq=>hm ((hr mid (Af h4 h1) (Ag h2 h5)).mp q)
    rw[if_neg hm];refine Exs.post (m2:=(([ER a,ER (.int x),ER (.int ((lo:Nat):Int)),ER (.int ((hi:Nat):Int)),ER key,Dt,Dt,Dt].set 5 (ER (.int ((mid:Nat):Int)))).set 2 (ER (.int ((mid+1:Nat):Int))))) ?_ (by with_unfolding_all exact Ia9 224);show Exs _ _ _ _ _ (_::_) _ _ _;exact .(Exs.cons .(Ia4 .(Iag .(Ia2 .(Ia2 .(Ia0 2) .(Ia0 3) .(Op2.add)) .(Ia1) (Iak (by decide) (by decide))) (qqk hmid)) .(Ia3 5)) .(Exs.cons .(Ia6 (c:=Hr) .(Iab .(Tr.cmp .(Ia0 1) .(Ev.call .(Ia0 4) (hkp) (Evs.cons .(Iaa .(Ia0 0) .(Ia0 5) (by exact hL s hs) (by exact qbi (x:=((mid:Nat):Int)) rfl hv) (by exact hz)) .(Evs.nil)) EvK.nil (hc k fr Y hY)) .(Ial)) hd) (λh=>nomatch h) (λ_=>.(Exs.cons .(Ia4 .(Iag .(Ia2 .(Ia0 5) .(Ia1) .(Op2.add)) (qvh)) .(Ia3 2)) .(Exs.nil)))) .(Exs.nil)))
theorem qt9 {a x y:AV}{lo hi:Int}:Tr ⟨W,Y,nm2.1,cd⟩ k fr [ER a,ER x,ER (.int lo),ER (.int hi),ER key,Dt,Dt,Dt] σ teRK.1 (decide (lo<hi)) σ:=by
  show Tr _ _ _ _ _ (.Compare _ _ _ _) _ _;exact .(Tr.cmp .(Ia0 2) .(Ia0 3) .(Ial))
noncomputable def teRN:PSigma (λl=>(qiz (nth (qb4 (nth bd2.1 2)) 0))=l):=⟨_,by conv=>lhs;whnf⟩
noncomputable def boRN:PSigma (λl=>(qb4 (nth (qb4 (nth bd2.1 2)) 0))=l):=⟨_,by conv=>lhs;whnf⟩
theorem qlw {S:Type}{P:S->Prop}{sg:S->List AObj}{a:AV}{x:Int}(hL:∀s,P s->Lv (sg s) a l)(hz:l.length<=Ai)(hval:∀(j:Nat),lo0<=j->j<hi0->l[j]?=ER (.int (κ j)))(hr:∀j:Nat,lo0<=j->j<hi0->(x<κ j↔r<=j))(lo hi mid:Nat)(s:S)(hs:P s)(h4:lo0<=lo)(h5:hi<=hi0)(h1:lo<=mid)(h2:mid<hi)(hmid:(lo+hi) / 2=mid):
    ∃s',P s'/\∀(Y:Nat->Prop) (cd:Hw) (k:Nat) (fr:List HA),(∀n,Yk n->Y n)->Exs ⟨W,Y,nm2.1,cd⟩ (k+d) fr [ER a,ER (.int x),ER (.int ((lo:Nat):Int)),ER (.int ((hi:Nat):Int)),ER .none,Dt,Dt,Dt] (sg s) boRN.1 .next (if r<=mid then [ER a,ER (.int x),ER (.int ((lo:Nat):Int)),ER (.int ((mid:Nat):Int)),ER .none,Dt,Dt,Dt] else [ER a,ER (.int x),ER (.int ((mid+1:Nat):Int)),ER (.int ((hi:Nat):Int)),ER .none,Dt,Dt,Dt]) (sg s'):=by
  have hv:=hval mid (Af h4 h1) (Ag h2 h5);refine ⟨s,hs,λY cd k fr hY=>?_⟩;by_cases hm:r<=mid
  . have hd:decide (x<κ mid)=Hq:=decide_eq_true ((hr mid (Af h4 h1) (Ag h2 h5)).mpr hm);rw[if_pos hm];refine Exs.post (m2:=(([ER a,ER (.int x),ER (.int ((lo:Nat):Int)),ER (.int ((hi:Nat):Int)),ER .none,Dt,Dt,Dt].set 5 (ER (.int ((mid:Nat):Int)))).set 3 (ER (.int ((mid:Nat):Int))))) ?_ (by with_unfolding_all exact Ia9 224);show Exs _ _ _ _ _ (_::_) _ _ _;exact .(Exs.cons .(Ia4 .(Iag .(Ia2 .(Ia2 .(Ia0 2) .(Ia0 3) .(Op2.add)) .(Ia1) (Iak (by decide) (by decide))) (qqk hmid)) .(Ia3 5)) .(Exs.cons .(Ia6 (c:=Hq) .(Iab .(Tr.cmp .(Ia0 1) .(Iaa .(Ia0 0) .(Ia0 5) (by exact hL s hs) (by exact qbi (x:=((mid:Nat):Int)) rfl hv) (by exact hz)) .(Ial)) hd) (λ_=>.(Exs.cons .(Ia4 .(Ia0 5) .(Ia3 3)) .(Exs.nil))) (λh=>nomatch h)) .(Exs.nil)))
  . have hd:decide (x<κ mid)=Hr:=decide_eq_false λq=>hm ((hr mid (Af h4 h1) (Ag h2 h5)).mp q)
    rw[if_neg hm];refine Exs.post (m2:=(([ER a,ER (.int x),ER (.int ((lo:Nat):Int)),ER (.int ((hi:Nat):Int)),ER .none,Dt,Dt,Dt].set 5 (ER (.int ((mid:Nat):Int)))).set 2 (ER (.int ((mid+1:Nat):Int))))) ?_ (by with_unfolding_all exact Ia9 224);show Exs _ _ _ _ _ (_::_) _ _ _;exact .(Exs.cons .(Ia4 .(Iag .(Ia2 .(Ia2 .(Ia0 2) .(Ia0 3) .(Op2.add)) .(Ia1) (Iak (by decide) (by decide))) (qqk hmid)) .(Ia3 5)) .(Exs.cons .(Ia6 (c:=Hr) .(Iab .(Tr.cmp .(Ia0 1) .(Iaa .(Ia0 0) .(Ia0 5) (by exact hL s hs) (by exact qbi (x:=((mid:Nat):Int)) rfl hv) (by exact hz)) .(Ial)) hd) (λh=>nomatch h) (λ_=>.(Exs.cons .(Ia4 .(Iag .(Ia2 .(Ia0 5) .(Ia1) .(Op2.add)) (qvh)) .(Ia3 2)) .(Exs.nil)))) .(Exs.nil)))
theorem qt8 {a x y:AV}{lo hi:Int}:Tr ⟨W,Y,nm2.1,cd⟩ k fr [ER a,ER x,ER (.int lo),ER (.int hi),ER key,Dt,Dt,Dt] σ teRN.1 (decide (lo<hi)) σ:=by
  show Tr _ _ _ _ _ (.Compare _ _ _ _) _ _;exact .(Tr.cmp .(Ia0 2) .(Ia0 3) .(Ial))
noncomputable def teLK:PSigma (λl=>(qiz (nth (qo3 (nth bd4.1 2)) 0))=l):=⟨_,by conv=>lhs;whnf⟩
noncomputable def boLK:PSigma (λl=>(qb4 (nth (qo3 (nth bd4.1 2)) 0))=l):=⟨_,by conv=>lhs;whnf⟩
theorem qlz {S:Type}{P:S->Prop}{sg:S->List AObj}{a:AV}{x:Int}(hL:∀s,P s->Lv (sg s) a l)(hz:l.length<=Ai)(hkp:Kept W key)(hkey:∀(j:Nat) (v:AV),l[j]?=ER v->KeyFn W d Yk sg P key v (κ j))(hhi:hi0<=l.length)(hr:∀j:Nat,lo0<=j->j<hi0->(κ j<x↔j<r))(lo hi mid:Nat)(s:S)(hs:P s)(h4:lo0<=lo)(h5:hi<=hi0)(h1:lo<=mid)(h2:mid<hi)(hmid:(lo+hi) / 2=mid):
    ∃s',P s'/\∀(Y:Nat->Prop) (cd:Hw) (k:Nat) (fr:List HA),(∀n,Yk n->Y n)->Exs ⟨W,Y,nm4.1,cd⟩ (k+d) fr [ER a,ER (.int x),ER (.int ((lo:Nat):Int)),ER (.int ((hi:Nat):Int)),ER key,Dt,Dt,Dt] (sg s) boLK.1 .next (if r<=mid then [ER a,ER (.int x),ER (.int ((lo:Nat):Int)),ER (.int ((mid:Nat):Int)),ER key,Dt,Dt,Dt] else [ER a,ER (.int x),ER (.int ((mid+1:Nat):Int)),ER (.int ((hi:Nat):Int)),ER key,Dt,Dt,Dt]) (sg s'):=by
  obtain ⟨v,hv⟩:∃v,l[mid]?=ER v:=⟨_,Aj (Ag h2 (Af h5 hhi))⟩
  refine qa4 (hkey mid v hv s hs) ?_;intro s1 hs1 hc;refine ⟨s1,hs1,λY cd k fr hY=>?_⟩;by_cases hm:r<=mid
  . have hd:decide (κ mid<x)=Hr:=decide_eq_false λq=>absurd ((hr mid (Af h4 h1) (Ag h2 h5)).mp q) (A9.mpr hm)
    rw[if_pos hm];refine Exs.post (m2:=(([ER a,ER (.int x),ER (.int ((lo:Nat):Int)),ER (.int ((hi:Nat):Int)),ER key,Dt,Dt,Dt].set 5 (ER (.int ((mid:Nat):Int)))).set 3 (ER (.int ((mid:Nat):Int))))) ?_ (by with_unfolding_all exact Ia9 224);show Exs _ _ _ _ _ (_::_) _ _ _;exact .(Exs.cons .(Ia4 .(Iag .(Ia2 .(Ia2 .(Ia0 2) .(Ia0 3) .(Op2.add)) .(Ia1) (Iak (by decide) (by decide))) (qqk hmid)) .(Ia3 5)) .(Exs.cons .(Ia6 (c:=Hr) .(Iab .(Tr.cmp .(Ev.call .(Ia0 4) (hkp) (Evs.cons .(Iaa .(Ia0 0) .(Ia0 5) (by exact hL s hs) (by exact qbi (x:=((mid:Nat):Int)) rfl hv) (by exact hz)) .(Evs.nil)) EvK.nil (hc k fr Y hY)) .(Ia0 1) .(Ial)) hd) (λh=>nomatch h) (λ_=>.(Exs.cons .(Ia4 .(Ia0 5) .(Ia3 3)) .(Exs.nil)))) .(Exs.nil)))
  . have hd:decide (κ mid<x)=Hq:=decide_eq_true ((hr mid (Af h4 h1) (Ag h2 h5)).mpr (DI.mp hm));rw[if_neg hm];refine Exs.post (m2:=(([ER a,ER (.int x),ER (.int ((lo:Nat):Int)),ER (.int ((hi:Nat):Int)),ER key,Dt,Dt,Dt].set 5 (ER (.int ((mid:Nat):Int)))).set 2 (ER (.int ((mid+1:Nat):Int))))) ?_ (by with_unfolding_all exact Ia9 224);show Exs _ _ _ _ _ (_::_) _ _ _;exact .(Exs.cons .(Ia4 .(Iag .(Ia2 .(Ia2 .(Ia0 2) .(Ia0 3) .(Op2.add)) .(Ia1) (Iak (by decide) (by decide))) (qqk hmid)) .(Ia3 5)) .(Exs.cons .(Ia6 (c:=Hq) .(Iab .(Tr.cmp .(Ev.call .(Ia0 4) (hkp) (Evs.cons .(Iaa .(Ia0 0) .(Ia0 5) (by exact hL s hs) (by exact qbi (x:=((mid:Nat):Int)) rfl hv) (by exact hz)) .(Evs.nil)) EvK.nil (hc k fr Y hY)) .(Ia0 1) .(Ial)) hd) (λ_=>.(Exs.cons .(Ia4 .(Iag .(Ia2 .(Ia0 5) .(Ia1) .(Op2.add)) (qvh)) .(Ia3 2)) .(Exs.nil))) (λh=>nomatch h)) .(Exs.nil)))
theorem qtb {a x y:AV}{lo hi:Int}:Tr ⟨W,Y,nm4.1,cd⟩ k fr [ER a,ER x,ER (.int lo),ER (.int hi),ER key,Dt,Dt,Dt] σ teLK.1 (decide (lo<hi)) σ:=by
  show Tr _ _ _ _ _ (.Compare _ _ _ _) _ _;exact .(Tr.cmp .(Ia0 2) .(Ia0 3) .(Ial))
noncomputable def teLN:PSigma (λl=>(qiz (nth (qb4 (nth bd4.1 2)) 0))=l):=⟨_,by conv=>lhs;whnf⟩
noncomputable def boLN:PSigma (λl=>(qb4 (nth (qb4 (nth bd4.1 2)) 0))=l):=⟨_,by conv=>lhs;whnf⟩
theorem qly {S:Type}{P:S->Prop}{sg:S->List AObj}{a:AV}{x:Int}(hL:∀s,P s->Lv (sg s) a l)(hz:l.length<=Ai)(hval:∀(j:Nat),lo0<=j->j<hi0->l[j]?=ER (.int (κ j)))(hr:∀j:Nat,lo0<=j->j<hi0->(κ j<x↔j<r))(lo hi mid:Nat)(s:S)(hs:P s)(h4:lo0<=lo)(h5:hi<=hi0)(h1:lo<=mid)(h2:mid<hi)(hmid:(lo+hi) / 2=mid):
    ∃s',P s'/\∀(Y:Nat->Prop) (cd:Hw) (k:Nat) (fr:List HA),(∀n,Yk n->Y n)->Exs ⟨W,Y,nm4.1,cd⟩ (k+d) fr [ER a,ER (.int x),ER (.int ((lo:Nat):Int)),ER (.int ((hi:Nat):Int)),ER .none,Dt,Dt,Dt] (sg s) boLN.1 .next (if r<=mid then [ER a,ER (.int x),ER (.int ((lo:Nat):Int)),ER (.int ((mid:Nat):Int)),ER .none,Dt,Dt,Dt] else [ER a,ER (.int x),ER (.int ((mid+1:Nat):Int)),ER (.int ((hi:Nat):Int)),ER .none,Dt,Dt,Dt]) (sg s'):=by
  have hv:=hval mid (Af h4 h1) (Ag h2 h5);refine ⟨s,hs,λY cd k fr hY=>?_⟩;by_cases hm:r<=mid
  . have hd:decide (κ mid<x)=Hr:=decide_eq_false λq=>absurd ((hr mid (Af h4 h1) (Ag h2 h5)).mp q) (A9.mpr hm)
    rw[if_pos hm];refine Exs.post (m2:=(([ER a,ER (.int x),ER (.int ((lo:Nat):Int)),ER (.int ((hi:Nat):Int)),ER .none,Dt,Dt,Dt].set 5 (ER (.int ((mid:Nat):Int)))).set 3 (ER (.int ((mid:Nat):Int))))) ?_ (by with_unfolding_all exact Ia9 224);show Exs _ _ _ _ _ (_::_) _ _ _;exact .(Exs.cons .(Ia4 .(Iag .(Ia2 .(Ia2 .(Ia0 2) .(Ia0 3) .(Op2.add)) .(Ia1) (Iak (by decide) (by decide))) (qqk hmid)) .(Ia3 5)) .(Exs.cons .(Ia6 (c:=Hr) .(Iab .(Tr.cmp .(Iaa .(Ia0 0) .(Ia0 5) (by exact hL s hs) (by exact qbi (x:=((mid:Nat):Int)) rfl hv) (by exact hz)) .(Ia0 1) .(Ial)) hd) (λh=>nomatch h) (λ_=>.(Exs.cons .(Ia4 .(Ia0 5) .(Ia3 3)) .(Exs.nil)))) .(Exs.nil)))
  . have hd:decide (κ mid<x)=Hq:=decide_eq_true ((hr mid (Af h4 h1) (Ag h2 h5)).mpr (DI.mp hm));rw[if_neg hm];refine Exs.post (m2:=(([ER a,ER (.int x),ER (.int ((lo:Nat):Int)),ER (.int ((hi:Nat):Int)),ER .none,Dt,Dt,Dt].set 5 (ER (.int ((mid:Nat):Int)))).set 2 (ER (.int ((mid+1:Nat):Int))))) ?_ (by with_unfolding_all exact Ia9 224);show Exs _ _ _ _ _ (_::_) _ _ _;exact .(Exs.cons .(Ia4 .(Iag .(Ia2 .(Ia2 .(Ia0 2) .(Ia0 3) .(Op2.add)) .(Ia1) (Iak (by decide) (by decide))) (qqk hmid)) .(Ia3 5)) .(Exs.cons .(Ia6 (c:=Hq) .(Iab .(Tr.cmp .(Iaa .(Ia0 0) .(Ia0 5) (by exact hL s hs) (by exact qbi (x:=((mid:Nat):Int)) rfl hv) (by exact hz)) .(Ia0 1) .(Ial)) hd) (λ_=>.(Exs.cons .(Ia4 .(Iag .(Ia2 .(Ia0 5) .(Ia1) .(Op2.add)) (qvh)) .(Ia3 2)) .(Exs.nil))) (λh=>nomatch h)) .(Exs.nil)))
theorem qta {a x y:AV}{lo hi:Int}:Tr ⟨W,Y,nm4.1,cd⟩ k fr [ER a,ER x,ER (.int lo),ER (.int hi),ER key,Dt,Dt,Dt] σ teLN.1 (decide (lo<hi)) σ:=by
  show Tr _ _ _ _ _ (.Compare _ _ _ _) _ _;exact .(Tr.cmp .(Ia0 2) .(Ia0 3) .(Ial))
end
section
theorem qdr {x:AV}(hn:σ[n]?=ER (.lst l))(c1:Cl σ)(hx:qb5 σ.length x=Hq):∀ao∈σ.set n (.lst (l.take r++[x]++l.drop r)),qdk σ.length ao=Hq:=λao hao=>by
  rcases F8 hao with hao | rfl
  . exact c1 ao hao
  . have hl:qac σ.length l=Hq:=c1 (.lst l) (Av hn);refine qc8 λv hv=>?_
    rcases BZ.mp hv with hv | hv
    . rcases BZ.mp hv with hv | hv
      . exact qcz hl v (List.mem_of_mem_take hv)
      . rw[AE.mp hv];exact hx
    . exact qcz hl v (List.mem_of_mem_drop hv)
theorem qv7 (F:Fac W){S:Type}{P:S->Prop}{sg:S->List AObj}{s:S}{a:AV}{x:Int}{lo:Nat}(hK:qom W d Yk sg P key a l κ)(hs:P s)(hlen:∀s s':S,(sg s).length=(sg s').length)(hz:l.length<=Ai)(hH:(H=.none/\hi=l.length)\/H=.int (hi:Nat))(hhi:hi<=l.length)(h1:lo<=r)(h2:r<=hi)(hr:∀j:Nat,lo<=j->j<hi->(x<κ j↔r<=j))(B:FnB W NoK nm2.1 bd2.1 A2 args kn kv [ER a,ER (.int x),ER (.int ((lo:Nat):Int)),ER H,ER key,Dt,Dt,Dt]):∃s',P s'/\∀(k:Nat) (fr:List HA) (Y:Nat->Prop),(∀n,Yk n->Y n)->Calls W Y (k+d+1) fr (sg s) (.glob (.ref A2)) args kn kv (.int (r:Nat)) (sg s'):=by
  refine qa4 (qfj (nm:=nm2.1) (λ_ _ _ _ _ _ _=>qt9 (y:=.none)) (qlx hK.lv hz hK.kept hK.at_ hhi hr) hi lo hi s (Cr _ _) h1 h2 (Aq _) (Aq _) hs) ?_;intro s' hs' hw;refine ⟨s',hs',λk fr Y hY=>Ibg B (m':=[]) (fl:=.ret (.int (r:Nat))) (λcd env _=>Exs.f ?_) (Bn (hlen _ _)) rfl rfl⟩;have hw:=hw (λm=>Y m\/(sg s).length<=m) cd k (env::fr) λn q=>.inl (hY n q)
  have hneg:decide ((lo:Int)<0)=Hr:=decide_eq_false (CP.mpr (BA lo));show Exs _ _ _ _ _ (_::_) _ _ _;rcases hH with ⟨rfl,rfl⟩ | rfl
  . with_reducible exact Iaf .(Exs.cons .(Ia6 (c:=Hr) .(Iab .(Tr.cmp .(Ia0 2) .(Ia1) .(Ial)) hneg) (λh=>nomatch h) (λ_=>.(Exs.nil))) .(Exs.cons .(Ia6 (c:=Hq) .(Iab .(Tr.cmp .(Ia0 3) .(Iac) .(Op2.isNone Uu)) rfl) (λ_=>.(Exs.cons .(Ia4 .(Ev.call .(Iah 7 F.b_len) .(Kept.builtin) (Evs.cons .(Ia0 0) .(Evs.nil)) EvK.nil (Calls.len (hK.lv s hs) hz)) .(Ia3 3)) .(Exs.nil))) (λh=>nomatch h)) .(Exs.cons .(Ia6 (c:=Hr) .(Iab .(Tr.cmp .(Ia0 4) .(Iac) (Op2.isNone hK.nn)) rfl) (λh=>nomatch h) (λ_=>.(Exs.cons .(Iam (by with_unfolding_all exact WhileC.pre hw (by with_unfolding_all exact Ia9 224))) .(Exs.nil)))) .(Exs.ret .(Iai .(Ia0 2))))))
  . with_reducible exact Iaf .(Exs.cons .(Ia6 (c:=Hr) .(Iab .(Tr.cmp .(Ia0 2) .(Ia1) .(Ial)) hneg) (λh=>nomatch h) (λ_=>.(Exs.nil))) .(Exs.cons .(Ia6 (c:=Hr) .(Iab .(Tr.cmp .(Ia0 3) .(Iac) .(Op2.isNone Uu)) rfl) (λh=>nomatch h) (λ_=>.(Exs.nil))) .(Exs.cons .(Ia6 (c:=Hr) .(Iab .(Tr.cmp .(Ia0 4) .(Iac) (Op2.isNone hK.nn)) rfl) (λh=>nomatch h) (λ_=>.(Exs.cons .(Iam (by with_unfolding_all exact WhileC.pre hw (by with_unfolding_all exact Ia9 224))) .(Exs.nil)))) .(Exs.ret .(Iai .(Ia0 2))))))
theorem qv6 (F:Fac W){a:AV}{x:Int}{lo:Nat}(hL:Lv σ a l)(hval:∀(j:Nat),lo<=j->j<hi->l[j]?=ER (.int (κ j)))(hz:l.length<=Ai)(hH:(H=.none/\hi=l.length)\/H=.int (hi:Nat))(hhi:hi<=l.length)(h1:lo<=r)(h2:r<=hi)(hr:∀j:Nat,lo<=j->j<hi->(x<κ j↔r<=j))(B:FnB W NoK nm2.1 bd2.1 A2 args [] [] [ER a,ER (.int x),ER (.int ((lo:Nat):Int)),ER H,ER .none,Dt,Dt,Dt]):Calls W Y (k+1) fr σ (.glob (.ref A2)) args [] [] (.int (r:Nat)) σ:=by
  obtain ⟨_,_,hw⟩:=qfj (W:=W) (d:=0) (Yk:=λ_=>False) (sg:=λ_:Unit=>σ) (P:=λ_=>True) (nm:=nm2.1) (λ_ _ _ _ _ _ _=>qt8 (y:=.none)) (qlw (λ_ _=>hL) hz hval hr) hi lo hi () (Cr _ _) h1 h2 (Aq _) (Aq _) trivial;refine Iaq B (m':=[]) (fl:=.ret (.int (r:Nat))) (λcd env _=>Exs.f ?_) rfl rfl;have hw:=hw (λm=>Y m\/σ.length<=m) cd k (env::fr) λn q=>q.elim
  have hneg:decide ((lo:Int)<0)=Hr:=decide_eq_false (CP.mpr (BA lo));show Exs _ _ _ _ _ (_::_) _ _ _;rcases hH with ⟨rfl,rfl⟩ | rfl
  . with_reducible exact Iaf .(Exs.cons .(Ia6 (c:=Hr) .(Iab .(Tr.cmp .(Ia0 2) .(Ia1) .(Ial)) hneg) (λh=>nomatch h) (λ_=>.(Exs.nil))) .(Exs.cons .(Ia6 (c:=Hq) .(Iab .(Tr.cmp .(Ia0 3) .(Iac) .(Op2.isNone Uu)) rfl) (λ_=>.(Exs.cons .(Ia4 .(Ev.call .(Iah 7 F.b_len) .(Kept.builtin) (Evs.cons .(Ia0 0) .(Evs.nil)) EvK.nil (Calls.len hL hz)) .(Ia3 3)) .(Exs.nil))) (λh=>nomatch h)) .(Exs.cons .(Ia6 (c:=Hq) .(Iab .(Tr.cmp .(Ia0 4) .(Iac) .(Op2.isNone Uu)) rfl) (λ_=>.(Exs.cons .(Iam (by with_unfolding_all exact WhileC.pre hw (by with_unfolding_all exact Ia9 224))) .(Exs.nil))) (λh=>nomatch h)) .(Exs.ret .(Iai .(Ia0 2))))))
  . with_reducible exact Iaf .(Exs.cons .(Ia6 (c:=Hr) .(Iab .(Tr.cmp .(Ia0 2) .(Ia1) .(Ial)) hneg) (λh=>nomatch h) (λ_=>.(Exs.nil))) .(Exs.cons .(Ia6 (c:=Hr) .(Iab .(Tr.cmp .(Ia0 3) .(Iac) .(Op2.isNone Uu)) rfl) (λh=>nomatch h) (λ_=>.(Exs.nil))) .(Exs.cons .(Ia6 (c:=Hq) .(Iab .(Tr.cmp .(Ia0 4) .(Iac) .(Op2.isNone Uu)) rfl) (λ_=>.(Exs.cons .(Iam (by with_unfolding_all exact WhileC.pre hw (by with_unfolding_all exact Ia9 224))) .(Exs.nil))) (λh=>nomatch h)) .(Exs.ret .(Iai .(Ia0 2))))))
theorem quk (F:Fac W)(hn:σ[n]?=ER (.lst l))(hY:Y n)(hz:l.length<=Ai)(h2:r<=l.length)(hr:∀j:Nat,0<=j->j<l.length->(kx<κ j↔r<=j)){x:AV}(hkp:Kept W key)(hnn:isNone key=ER Hr)(hk:∀j v,l[j]?=ER v->∀k fr Y,Calls W Y (k+d) fr σ key [v] [] [] (.int (κ j)) σ)(hx:∀k fr Y,Calls W Y (k+d) fr σ key [x] [] [] (.int kx) σ)(hpx:plain x=Hq)(k:Nat)(fr:List HA):Calls W Y (k+1+d+1) fr σ (.glob (.ref A1)) [.loc n,x] ["key"] [key] .none (σ.set n (.lst (l.take r++[x]++l.drop r))):=by
  refine Ib0 (τ:=[]) (F.f1k2 (.loc n) x key) (m':=[]) (fl:=.next) (λcd env _=>?_) (by simp) (λc1 c2=>⟨rfl,qdr hn c1 (qcz (c2 (by show (Hq&&(plain x&&Hq))=Hq;rw[hpx];rfl)) x (.tail _ (.head _)))⟩);rw[AO];refine Exs.f (Iaf (m2:=[ER (.loc n),ER (x),ER (.int 0),ER .none,ER key,Dt].set 2 (ER (.int ((r:Nat):Int)))) ?_);show Exs _ _ _ _ _ (_::_) _ _ _;have hY':(λm=>Y m\/σ.length<=m) n:=.inl hY;have hkx:=hx (k+1) (env::fr) (λm=>Y m\/σ.length<=m);have hb:Calls W (λm=>Y m\/σ.length<=m) (k+1+d) (env::fr) σ (.glob (.ref A2)) [.loc n,.int kx,.int 0,.none] ["key"] [key] (.int ((r:Nat):Int)) σ:=by
    refine qa4 (qv7 F (lo:=0) (s:=()) (⟨hkp,hnn,λ_ _=>.inr ⟨n,rfl,hn⟩,λj v hv=>Ibk (hk j v hv)⟩:qom W d (λ_=>False) (λ_:Unit=>σ) (λ_=>True) key (.loc n) l κ) trivial (λ_ _=>rfl) hz (.inl ⟨rfl,rfl⟩) (Aq _) (AJ r) h2 hr (F.f2k4 (.loc n) (.int kx) (.int 0) .none key)) ?_;intro _ _ h;have h:=h k (env::fr) (λm=>Y m\/σ.length<=m) nofun;rwa[DM] at h
  have hkb:=(F.f2k4 .none .none .none .none .none).kept;exact .(Exs.cons .(Ia6 (c:=Hr) .(Iab .(Tr.cmp .(Ia0 4) .(Iac) (Op2.isNone hnn)) rfl) (λh=>nomatch h) (λ_=>.(Exs.cons .(Ia4 .(Ev.call .(Iad 5 F.g_bisect_right) (hkb) (Evs.cons .(Ia0 0) .((Evs.cons .(Ev.call .(Ia0 4) (hkp) (Evs.cons .(Ia0 1) .(Evs.nil)) EvK.nil (hkx)) .((Evs.cons .(Ia0 2) .((Evs.cons .(Ia0 3) .(Evs.nil)))))))) (EvK.cons .(Ia0 4) .(EvK.nil)) (hb)) .(Ia3 2)) .(Exs.nil)))) .(Exs.cons .(Ex.expr .(Iaj .(Ia0 0) (by exact Ibb .(Lv.loc (by assumption))) .(Kept.builtin) (Evs.cons .(Ia0 2) .((Evs.cons .(Ia0 1) .(Evs.nil)))) (by with_unfolding_all exact (Ib4 rfl hn hY' h2 hpx hz)))) .(Exs.nil)))
theorem qvx (F:Fac W){lo:Nat}(hn:σ[n]?=ER (.lst l))(hY:Y n)(hz:l.length<=Ai)(hH:(H=.none/\hi=l.length)\/H=.int (hi:Nat))(hhi:hi<=l.length)(h1:lo<=r)(h2:r<=hi)(hr:∀j:Nat,lo<=j->j<hi->(kx<κ j↔r<=j))(hval:∀j:Nat,lo<=j->j<hi->l[j]?=ER (.int (κ j)))(B:FnB W NoK nm1.1 bd1.1 A1 args [] [] [ER (.loc n),ER (.int kx),ER (.int (lo:Nat)),ER H,ER .none,Dt])(k:Nat)(fr:List HA):Calls W Y (k+2) fr σ (.glob (.ref A1)) args [] [] .none (σ.set n (.lst (l.take r++[.int kx]++l.drop r))):=by
  refine Ib0 (τ:=[]) B (m':=[]) (fl:=.next) (λcd env _=>?_) (by simp) (λc1 c2=>⟨rfl,qdr (x:=.int kx) hn c1 rfl⟩);rw[AO];refine Exs.f (Iaf (m2:=[ER (.loc n),ER (.int kx),ER (.int (lo:Nat)),ER H,ER .none,Dt].set 2 (ER (.int ((r:Nat):Int)))) ?_);show Exs _ _ _ _ _ (_::_) _ _ _;have hY':(λm=>Y m\/σ.length<=m) n:=.inl hY;have hb:Calls W (λm=>Y m\/σ.length<=m) (k+1) (env::fr) σ (.glob (.ref A2)) [.loc n,.int kx,.int (lo:Nat),H] [] [] (.int ((r:Nat):Int)) σ:=qv6 F (.inr ⟨n,rfl,hn⟩) hval hz hH hhi h1 h2 hr (F.f2n4 (.loc n) (.int kx) (.int (lo:Nat)) H);have hkb:=(F.f2k4 .none .none .none .none .none).kept;exact .(Exs.cons .(Ia6 (c:=Hq) .(Iab .(Tr.cmp .(Ia0 4) .(Iac) .(Op2.isNone Uu)) rfl) (λ_=>.(Exs.cons .(Ia4 .(Ev.call .(Iad 5 F.g_bisect_right) (hkb) (Evs.cons .(Ia0 0) .((Evs.cons .(Ia0 1) .((Evs.cons .(Ia0 2) .((Evs.cons .(Ia0 3) .(Evs.nil)))))))) EvK.nil (hb)) .(Ia3 2)) .(Exs.nil))) (λh=>nomatch h)) .(Exs.cons .(Ex.expr .(Iaj .(Ia0 0) (by exact Ibb .(Lv.loc (by assumption))) .(Kept.builtin) (Evs.cons .(Ia0 2) .((Evs.cons .(Ia0 1) .(Evs.nil)))) (by with_unfolding_all exact (Ib4 rfl hn hY' (Af h2 hhi) rfl hz)))) .(Exs.nil)))
theorem qgv (F:Fac W){a x:AV}(B:FnB W NoK nm2.1 bd2.1 A2 args kn kv [ER a,ER x,ER (.int (-1)),ER H,ER key,Dt,Dt,Dt]):CallsR W Y (k+1) fr σ (.glob (.ref A2)) args kn kv Hr "ValueError" (λus=>∃t,us=[.str "lo must be non-negative" t]) σ:=by
  refine B.callsR (m':=[ER a,ER x,ER (.int (-1)),ER H,ER key,Dt,Dt,Dt]) (mk:=Hq) λcd env _=>?_
  show ExsR _ _ _ _ _ (_::_) _ _ _ _ _;refine ExsR.head ?_;show ExR _ _ _ _ _ (.If _ (_::_) _ _) _ _ _ _ _;refine Ich (c:=Hq) (z1:=σ) ?_ (λ_=>ExsR.head ?_) (λh=>nomatch h)
  . with_reducible exact Iab .(Tr.cmp .(Ia0 2) .(Ia1) .(Ial)) (by decide)
  . exact Ice (i:=6) Uu F.b_ValueError.g F.b_ValueError.b
theorem qk3 (F:Fac W){a x:AV}:CallsR W Y (k+1) fr σ (.glob (.ref A2)) [a,x,.int (-1)] ["key"] [key] Hr "ValueError" (λus=>∃t,us=[.str "lo must be non-negative" t]) σ:=qgv F (F.f2k3 a x (.int (-1)) key)
theorem qjh (F:Fac W){a x:AV}(hkp:Kept W key)(hnn:isNone key=ER Hr)(hx:∀k fr Y,Calls W Y (k+d) fr σ key [x] [] [] (.int kx) σ):CallsR W Y (k+1+d+1) fr σ (.glob (.ref A1)) [a,x,.int (-1)] ["key"] [key] Hr "ValueError" (λus=>∃t,us=[.str "lo must be non-negative" t]) σ:=by
  refine (F.f1k3 a x (.int (-1)) key).callsR (mk:=Hr) (m':=[ER a,ER x,ER (.int (-1)),ER .none,ER key,Dt]) λcd env _=>?_
  have hkx:=hx (k+1) (env::fr) (λm=>Y m\/σ.length<=m);have hb:CallsR W (λm=>Y m\/σ.length<=m) (k+1+d) (env::fr) σ (.glob (.ref A2)) [a,.int kx,.int (-1),.none] ["key"] [key] Hr "ValueError" (λus=>∃t,us=[.str "lo must be non-negative" t]) σ:=by
    have h:=qgv F (Y:=λm=>Y m\/σ.length<=m) (k:=k+d) (fr:=env::fr) (σ:=σ) (F.f2k4 a (.int kx) (.int (-1)) .none key);rwa[DM] at h
  have hkb:=(F.f2k4 .none .none .none .none .none).kept;show ExsR _ _ _ _ _ (_::_) _ _ _ _ _;refine ExsR.head ?_;show ExR _ _ _ _ _ (.If _ _ (_::_) _) _ _ _ _ _;refine Ich (c:=Hr) (z1:=σ) ?_ (λh=>nomatch h) (λ_=>ExsR.head ?_)
  . exact .(Tr.cmp .(Ia0 4) .(Iac) (Op2.isNone hnn))
  . with_reducible exact Icz .(EvR.call .(Iad 5 F.g_bisect_right) hkb (Evs.cons .(Ia0 0) .((Evs.cons .(Ev.call .(Ia0 4) (hkp) (Evs.cons .(Ia0 1) .(Evs.nil)) EvK.nil (hkx)) .((Evs.cons .(Ia0 2) .((Evs.cons .(Ia0 3) .(Evs.nil)))))))) (EvK.cons .(Ia0 4) .(EvK.nil)) hb)
theorem qva (F:Fac W){S:Type}{P:S->Prop}{sg:S->List AObj}{s:S}{a:AV}{x:Int}{lo:Nat}(hK:qom W d Yk sg P key a l κ)(hs:P s)(hlen:∀s s':S,(sg s).length=(sg s').length)(hz:l.length<=Ai)(hH:(H=.none/\hi=l.length)\/H=.int (hi:Nat))(hhi:hi<=l.length)(h1:lo<=r)(h2:r<=hi)(hr:∀j:Nat,lo<=j->j<hi->(κ j<x↔j<r))(B:FnB W NoK nm4.1 bd4.1 A4 args kn kv [ER a,ER (.int x),ER (.int ((lo:Nat):Int)),ER H,ER key,Dt,Dt,Dt]):∃s',P s'/\∀(k:Nat) (fr:List HA) (Y:Nat->Prop),(∀n,Yk n->Y n)->Calls W Y (k+d+1) fr (sg s) (.glob (.ref A4)) args kn kv (.int (r:Nat)) (sg s'):=by
  refine qa4 (qfj (nm:=nm4.1) (λ_ _ _ _ _ _ _=>qtb (y:=.none)) (qlz hK.lv hz hK.kept hK.at_ hhi hr) hi lo hi s (Cr _ _) h1 h2 (Aq _) (Aq _) hs) ?_;intro s' hs' hw;refine ⟨s',hs',λk fr Y hY=>Ibg B (m':=[]) (fl:=.ret (.int (r:Nat))) (λcd env _=>Exs.f ?_) (Bn (hlen _ _)) rfl rfl⟩;have hw:=hw (λm=>Y m\/(sg s).length<=m) cd k (env::fr) λn q=>.inl (hY n q)
  have hneg:decide ((lo:Int)<0)=Hr:=decide_eq_false (CP.mpr (BA lo));show Exs _ _ _ _ _ (_::_) _ _ _;rcases hH with ⟨rfl,rfl⟩ | rfl
  . with_reducible exact Iaf .(Exs.cons .(Ia6 (c:=Hr) .(Iab .(Tr.cmp .(Ia0 2) .(Ia1) .(Ial)) hneg) (λh=>nomatch h) (λ_=>.(Exs.nil))) .(Exs.cons .(Ia6 (c:=Hq) .(Iab .(Tr.cmp .(Ia0 3) .(Iac) .(Op2.isNone Uu)) rfl) (λ_=>.(Exs.cons .(Ia4 .(Ev.call .(Iah 7 F.b_len) .(Kept.builtin) (Evs.cons .(Ia0 0) .(Evs.nil)) EvK.nil (Calls.len (hK.lv s hs) hz)) .(Ia3 3)) .(Exs.nil))) (λh=>nomatch h)) .(Exs.cons .(Ia6 (c:=Hr) .(Iab .(Tr.cmp .(Ia0 4) .(Iac) (Op2.isNone hK.nn)) rfl) (λh=>nomatch h) (λ_=>.(Exs.cons .(Iam (by with_unfolding_all exact WhileC.pre hw (by with_unfolding_all exact Ia9 224))) .(Exs.nil)))) .(Exs.ret .(Iai .(Ia0 2))))))
  . with_reducible exact Iaf .(Exs.cons .(Ia6 (c:=Hr) .(Iab .(Tr.cmp .(Ia0 2) .(Ia1) .(Ial)) hneg) (λh=>nomatch h) (λ_=>.(Exs.nil))) .(Exs.cons .(Ia6 (c:=Hr) .(Iab .(Tr.cmp .(Ia0 3) .(Iac) .(Op2.isNone Uu)) rfl) (λh=>nomatch h) (λ_=>.(Exs.nil))) .(Exs.cons .(Ia6 (c:=Hr) .(Iab .(Tr.cmp .(Ia0 4) .(Iac) (Op2.isNone hK.nn)) rfl) (λh=>nomatch h) (λ_=>.(Exs.cons .(Iam (by with_unfolding_all exact WhileC.pre hw (by with_unfolding_all exact Ia9 224))) .(Exs.nil)))) .(Exs.ret .(Iai .(Ia0 2))))))
theorem qv9 (F:Fac W){a:AV}{x:Int}{lo:Nat}(hL:Lv σ a l)(hval:∀(j:Nat),lo<=j->j<hi->l[j]?=ER (.int (κ j)))(hz:l.length<=Ai)(hH:(H=.none/\hi=l.length)\/H=.int (hi:Nat))(hhi:hi<=l.length)(h1:lo<=r)(h2:r<=hi)(hr:∀j:Nat,lo<=j->j<hi->(κ j<x↔j<r))(B:FnB W NoK nm4.1 bd4.1 A4 args [] [] [ER a,ER (.int x),ER (.int ((lo:Nat):Int)),ER H,ER .none,Dt,Dt,Dt]):Calls W Y (k+1) fr σ (.glob (.ref A4)) args [] [] (.int (r:Nat)) σ:=by
  obtain ⟨_,_,hw⟩:=qfj (W:=W) (d:=0) (Yk:=λ_=>False) (sg:=λ_:Unit=>σ) (P:=λ_=>True) (nm:=nm4.1) (λ_ _ _ _ _ _ _=>qta (y:=.none)) (qly (λ_ _=>hL) hz hval hr) hi lo hi () (Cr _ _) h1 h2 (Aq _) (Aq _) trivial;refine Iaq B (m':=[]) (fl:=.ret (.int (r:Nat))) (λcd env _=>Exs.f ?_) rfl rfl;have hw:=hw (λm=>Y m\/σ.length<=m) cd k (env::fr) λn q=>q.elim
  have hneg:decide ((lo:Int)<0)=Hr:=decide_eq_false (CP.mpr (BA lo));show Exs _ _ _ _ _ (_::_) _ _ _;rcases hH with ⟨rfl,rfl⟩ | rfl
  . with_reducible exact Iaf .(Exs.cons .(Ia6 (c:=Hr) .(Iab .(Tr.cmp .(Ia0 2) .(Ia1) .(Ial)) hneg) (λh=>nomatch h) (λ_=>.(Exs.nil))) .(Exs.cons .(Ia6 (c:=Hq) .(Iab .(Tr.cmp .(Ia0 3) .(Iac) .(Op2.isNone Uu)) rfl) (λ_=>.(Exs.cons .(Ia4 .(Ev.call .(Iah 7 F.b_len) .(Kept.builtin) (Evs.cons .(Ia0 0) .(Evs.nil)) EvK.nil (Calls.len hL hz)) .(Ia3 3)) .(Exs.nil))) (λh=>nomatch h)) .(Exs.cons .(Ia6 (c:=Hq) .(Iab .(Tr.cmp .(Ia0 4) .(Iac) .(Op2.isNone Uu)) rfl) (λ_=>.(Exs.cons .(Iam (by with_unfolding_all exact WhileC.pre hw (by with_unfolding_all exact Ia9 224))) .(Exs.nil))) (λh=>nomatch h)) .(Exs.ret .(Iai .(Ia0 2))))))
  . with_reducible exact Iaf .(Exs.cons .(Ia6 (c:=Hr) .(Iab .(Tr.cmp .(Ia0 2) .(Ia1) .(Ial)) hneg) (λh=>nomatch h) (λ_=>.(Exs.nil))) .(Exs.cons .(Ia6 (c:=Hr) .(Iab .(Tr.cmp .(Ia0 3) .(Iac) .(Op2.isNone Uu)) rfl) (λh=>nomatch h) (λ_=>.(Exs.nil))) .(Exs.cons .(Ia6 (c:=Hq) .(Iab .(Tr.cmp .(Ia0 4) .(Iac) .(Op2.isNone Uu)) rfl) (λ_=>.(Exs.cons .(Iam (by with_unfolding_all exact WhileC.pre hw (by with_unfolding_all exact Ia9 224))) .(Exs.nil))) (λh=>nomatch h)) .(Exs.ret .(Iai .(Ia0 2))))))
theorem qul (F:Fac W)(hn:σ[n]?=ER (.lst l))(hY:Y n)(hz:l.length<=Ai)(h2:r<=l.length)(hr:∀j:Nat,0<=j->j<l.length->(κ j<kx↔j<r)){x:AV}(hkp:Kept W key)(hnn:isNone key=ER Hr)(hk:∀j v,l[j]?=ER v->∀k fr Y,Calls W Y (k+d) fr σ key [v] [] [] (.int (κ j)) σ)(hx:∀k fr Y,Calls W Y (k+d) fr σ key [x] [] [] (.int kx) σ)(hpx:plain x=Hq)(k:Nat)(fr:List HA):Calls W Y (k+1+d+1) fr σ (.glob (.ref A3)) [.loc n,x] ["key"] [key] .none (σ.set n (.lst (l.take r++[x]++l.drop r))):=by
  refine Ib0 (τ:=[]) (F.f3k2 (.loc n) x key) (m':=[]) (fl:=.next) (λcd env _=>?_) (by simp) (λc1 c2=>⟨rfl,qdr hn c1 (qcz (c2 (by show (Hq&&(plain x&&Hq))=Hq;rw[hpx];rfl)) x (.tail _ (.head _)))⟩);rw[AO];refine Exs.f (Iaf (m2:=[ER (.loc n),ER (x),ER (.int 0),ER .none,ER key,Dt].set 2 (ER (.int ((r:Nat):Int)))) ?_);show Exs _ _ _ _ _ (_::_) _ _ _;have hY':(λm=>Y m\/σ.length<=m) n:=.inl hY;have hkx:=hx (k+1) (env::fr) (λm=>Y m\/σ.length<=m);have hb:Calls W (λm=>Y m\/σ.length<=m) (k+1+d) (env::fr) σ (.glob (.ref A4)) [.loc n,.int kx,.int 0,.none] ["key"] [key] (.int ((r:Nat):Int)) σ:=by
    refine qa4 (qva F (lo:=0) (s:=()) (⟨hkp,hnn,λ_ _=>.inr ⟨n,rfl,hn⟩,λj v hv=>Ibk (hk j v hv)⟩:qom W d (λ_=>False) (λ_:Unit=>σ) (λ_=>True) key (.loc n) l κ) trivial (λ_ _=>rfl) hz (.inl ⟨rfl,rfl⟩) (Aq _) (AJ r) h2 hr (F.f4k4 (.loc n) (.int kx) (.int 0) .none key)) ?_;intro _ _ h;have h:=h k (env::fr) (λm=>Y m\/σ.length<=m) nofun;rwa[DM] at h
  have hkb:=(F.f4k4 .none .none .none .none .none).kept;exact .(Exs.cons .(Ia6 (c:=Hr) .(Iab .(Tr.cmp .(Ia0 4) .(Iac) (Op2.isNone hnn)) rfl) (λh=>nomatch h) (λ_=>.(Exs.cons .(Ia4 .(Ev.call .(Iad 5 F.g_bisect_left) (hkb) (Evs.cons .(Ia0 0) .((Evs.cons .(Ev.call .(Ia0 4) (hkp) (Evs.cons .(Ia0 1) .(Evs.nil)) EvK.nil (hkx)) .((Evs.cons .(Ia0 2) .((Evs.cons .(Ia0 3) .(Evs.nil)))))))) (EvK.cons .(Ia0 4) .(EvK.nil)) (hb)) .(Ia3 2)) .(Exs.nil)))) .(Exs.cons .(Ex.expr .(Iaj .(Ia0 0) (by exact Ibb .(Lv.loc (by assumption))) .(Kept.builtin) (Evs.cons .(Ia0 2) .((Evs.cons .(Ia0 1) .(Evs.nil)))) (by with_unfolding_all exact (Ib4 rfl hn hY' h2 hpx hz)))) .(Exs.nil)))
theorem qvy (F:Fac W){lo:Nat}(hn:σ[n]?=ER (.lst l))(hY:Y n)(hz:l.length<=Ai)(hH:(H=.none/\hi=l.length)\/H=.int (hi:Nat))(hhi:hi<=l.length)(h1:lo<=r)(h2:r<=hi)(hr:∀j:Nat,lo<=j->j<hi->(κ j<kx↔j<r))(hval:∀j:Nat,lo<=j->j<hi->l[j]?=ER (.int (κ j)))(B:FnB W NoK nm3.1 bd3.1 A3 args [] [] [ER (.loc n),ER (.int kx),ER (.int (lo:Nat)),ER H,ER .none,Dt])(k:Nat)(fr:List HA):Calls W Y (k+2) fr σ (.glob (.ref A3)) args [] [] .none (σ.set n (.lst (l.take r++[.int kx]++l.drop r))):=by
  refine Ib0 (τ:=[]) B (m':=[]) (fl:=.next) (λcd env _=>?_) (by simp) (λc1 c2=>⟨rfl,qdr (x:=.int kx) hn c1 rfl⟩);rw[AO];refine Exs.f (Iaf (m2:=[ER (.loc n),ER (.int kx),ER (.int (lo:Nat)),ER H,ER .none,Dt].set 2 (ER (.int ((r:Nat):Int)))) ?_);show Exs _ _ _ _ _ (_::_) _ _ _;have hY':(λm=>Y m\/σ.length<=m) n:=.inl hY;have hb:Calls W (λm=>Y m\/σ.length<=m) (k+1) (env::fr) σ (.glob (.ref A4)) [.loc n,.int kx,.int (lo:Nat),H] [] [] (.int ((r:Nat):Int)) σ:=qv9 F (.inr ⟨n,rfl,hn⟩) hval hz hH hhi h1 h2 hr (F.f4n4 (.loc n) (.int kx) (.int (lo:Nat)) H);have hkb:=(F.f4k4 .none .none .none .none .none).kept;exact .(Exs.cons .(Ia6 (c:=Hq) .(Iab .(Tr.cmp .(Ia0 4) .(Iac) .(Op2.isNone Uu)) rfl) (λ_=>.(Exs.cons .(Ia4 .(Ev.call .(Iad 5 F.g_bisect_left) (hkb) (Evs.cons .(Ia0 0) .((Evs.cons .(Ia0 1) .((Evs.cons .(Ia0 2) .((Evs.cons .(Ia0 3) .(Evs.nil)))))))) EvK.nil (hb)) .(Ia3 2)) .(Exs.nil))) (λh=>nomatch h)) .(Exs.cons .(Ex.expr .(Iaj .(Ia0 0) (by exact Ibb .(Lv.loc (by assumption))) .(Kept.builtin) (Evs.cons .(Ia0 2) .((Evs.cons .(Ia0 1) .(Evs.nil)))) (by with_unfolding_all exact (Ib4 rfl hn hY' (Af h2 hhi) rfl hz)))) .(Exs.nil)))
theorem qgw (F:Fac W){a x:AV}(B:FnB W NoK nm4.1 bd4.1 A4 args kn kv [ER a,ER x,ER (.int (-1)),ER H,ER key,Dt,Dt,Dt]):CallsR W Y (k+1) fr σ (.glob (.ref A4)) args kn kv Hr "ValueError" (λus=>∃t,us=[.str "lo must be non-negative" t]) σ:=by
  refine B.callsR (m':=[ER a,ER x,ER (.int (-1)),ER H,ER key,Dt,Dt,Dt]) (mk:=Hq) λcd env _=>?_
  show ExsR _ _ _ _ _ (_::_) _ _ _ _ _;refine ExsR.head ?_;show ExR _ _ _ _ _ (.If _ (_::_) _ _) _ _ _ _ _;refine Ich (c:=Hq) (z1:=σ) ?_ (λ_=>ExsR.head ?_) (λh=>nomatch h)
  . with_reducible exact Iab .(Tr.cmp .(Ia0 2) .(Ia1) .(Ial)) (by decide)
  . exact Ice (i:=6) Uu F.b_ValueError.g F.b_ValueError.b
theorem qk4 (F:Fac W){a x:AV}:CallsR W Y (k+1) fr σ (.glob (.ref A4)) [a,x,.int (-1)] ["key"] [key] Hr "ValueError" (λus=>∃t,us=[.str "lo must be non-negative" t]) σ:=qgw F (F.f4k3 a x (.int (-1)) key)
theorem qjj (F:Fac W){a x:AV}(hkp:Kept W key)(hnn:isNone key=ER Hr)(hx:∀k fr Y,Calls W Y (k+d) fr σ key [x] [] [] (.int kx) σ):CallsR W Y (k+1+d+1) fr σ (.glob (.ref A3)) [a,x,.int (-1)] ["key"] [key] Hr "ValueError" (λus=>∃t,us=[.str "lo must be non-negative" t]) σ:=by
  refine (F.f3k3 a x (.int (-1)) key).callsR (mk:=Hr) (m':=[ER a,ER x,ER (.int (-1)),ER .none,ER key,Dt]) λcd env _=>?_
  have hkx:=hx (k+1) (env::fr) (λm=>Y m\/σ.length<=m);have hb:CallsR W (λm=>Y m\/σ.length<=m) (k+1+d) (env::fr) σ (.glob (.ref A4)) [a,.int kx,.int (-1),.none] ["key"] [key] Hr "ValueError" (λus=>∃t,us=[.str "lo must be non-negative" t]) σ:=by
    have h:=qgw F (Y:=λm=>Y m\/σ.length<=m) (k:=k+d) (fr:=env::fr) (σ:=σ) (F.f4k4 a (.int kx) (.int (-1)) .none key);rwa[DM] at h
  have hkb:=(F.f4k4 .none .none .none .none .none).kept;show ExsR _ _ _ _ _ (_::_) _ _ _ _ _;refine ExsR.head ?_;show ExR _ _ _ _ _ (.If _ _ (_::_) _) _ _ _ _ _;refine Ich (c:=Hr) (z1:=σ) ?_ (λh=>nomatch h) (λ_=>ExsR.head ?_)
  . exact .(Tr.cmp .(Ia0 4) .(Iac) (Op2.isNone hnn))
  . with_reducible exact Icz .(EvR.call .(Iad 5 F.g_bisect_left) hkb (Evs.cons .(Ia0 0) .((Evs.cons .(Ev.call .(Ia0 4) (hkp) (Evs.cons .(Ia0 1) .(Evs.nil)) EvK.nil (hkx)) .((Evs.cons .(Ia0 2) .((Evs.cons .(Ia0 3) .(Evs.nil)))))))) (EvK.cons .(Ia0 4) .(EvK.nil)) hb)
end
section
theorem qf6 (l:List Int):qac b (qa0 l)=Hq:=qc8 λv hv=>by
  refine qa4 (Bg.mp hv) ?_;intro i _ eq_0_2;subst eq_0_2;rfl
theorem qe2 {x:AObj}(h:∀ao∈σ,qdk b ao=Hq)(hx:qdk b x=Hq):∀ao∈σ.set n x,qdk b ao=Hq:=λao hao=>by
  rcases F8 hao with q | rfl
  . exact h ao q
  . exact hx
theorem qil (F:Fac W){n w:Int}:Calls W Y (k+1) fr σ (.glob (.ref A13)) [.int n,.int w] [] [] (.lst (qa0 (qo2 n w))) σ:=by
  refine qvs (qgq (n:=n) (w:=w)) ?_;intro hz h t ht;refine Iaq (F.f13 (.int n) (.int w) rfl rfl) (λcd env _=>(qjv ht (ht ▸ hz)).f) ?_ (qcn _);rw[qo2,ht];rfl
noncomputable def te8:PSigma (λl=>(qiz (nth bd8.1 2))=l):=⟨_,by conv=>lhs;whnf⟩
noncomputable def bo8:PSigma (λl=>(qb4 (nth bd8.1 2))=l):=⟨_,by conv=>lhs;whnf⟩
theorem qiy (F:Fac W){r:Int}{out:List Int}(hY:Y n):∀(rest:List Int) (val b:Int) (σ:List AObj),σ[n]?=ER (.iter (qa0 rest))->qm2 val b rest=ER (r,out)->
    WhileC ⟨W,Y,nm8.1,cd⟩ k fr te8.1 bo8.1 [] [ER (.loc n),ER (.int b),ER (.int val),Dt] σ .next [ER (.loc n),Dt,ER (.int r),Dt] (σ.set n (.iter (qa0 out))):=by
  have stop:∀(rest:List Int) (val b:Int) (σ:List AObj),σ[n]?=ER (.iter (qa0 rest))->qm2 val b rest=ER (r,out)->b / 64 % 2=0->
      WhileC ⟨W,Y,nm8.1,cd⟩ k fr te8.1 bo8.1 [] [ER (.loc n),ER (.int b),ER (.int val),Dt] σ .next [ER (.loc n),Dt,ER (.int r),Dt] (σ.set n (.iter (qa0 out))):=by
    intro rest val b σ hn hp hb;rw[qgz hb] at hp;injection hp with hp;injection hp with h1 h2;subst h1 h2
    rw[qfc hn];have ht:(AN b 64 != 0)=Hr:=by
      rw[show (64:Int)=2 ^ 6 from rfl,kbt_bit,show (2:Int) ^ 6=64 from rfl,hb];rfl
    refine WhileC.post (m2:=[ER (.loc n),ER (.int b),ER (.int val),Dt]) (Ib1 (z1:=σ) ?_ Exs.nil) (by with_unfolding_all exact Ia9 10);show Tr _ _ _ _ _ (.BinOp _ _ _ _) _ _;with_reducible exact Iab .(Tr.val .(Ia2 .(Ia0 1) .(Ia1) .(Op2.and)) (Tv.int)) ht
  intro rest;induction rest with
  | nil=>
    intro val b σ hn hp;by_cases hb:b / 64 % 2=0
    . exact stop [] val b σ hn hp hb
    . rw[qm2,if_neg hb] at hp;cases hp
  | cons b' rest ih=>
    intro val b σ hn hp;by_cases hb:b / 64 % 2=0
    . exact stop _ val b σ hn hp hb
    . by_cases hv:0<=val/\val<2 ^ 50
      . rw[qfp hb hv] at hp;have ht:(AN b 64 != 0)=Hq:=by
          rw[show (64:Int)=2 ^ 6 from rfl,kbt_bit,show (2:Int) ^ 6=64 from rfl];have:b / 64 % 2=1:=by omega
          rw[this];rfl
        have hw:=ih (val*64+b' % 64) b' (σ.set n (.iter (qa0 rest))) (qbv hn) hp;rw[Dr] at hw;have hnx:σ[n]?=ER (.iter (.int b'::qa0 rest)):=hn;have e1:AV.int (Du (val*2 ^ (6:Int).toNat) (AN b' 63))=.int (val*64+b' % 64):=by
          rw[bitAnd_m6,show (2:Int) ^ (6:Int).toNat=64 from rfl,qoi hv.1 (by omega) (by omega)]
        refine WhileC.next (z1:=σ) (z2:=σ.set n (.iter (qa0 rest))) (m1:=[ER (.loc n),ER (.int b'),ER (.int (val*64+b' % 64)),Dt]) ?_ ?_ hw
        . show Tr _ _ _ _ _ (.BinOp _ _ _ _) _ _;with_reducible exact Iab .(Tr.val .(Ia2 .(Ia0 1) .(Ia1) .(Op2.and)) (Tv.int)) ht
        . refine Exs.post (m2:=((([ER (.loc n),ER (.int b),ER (.int val),Dt].set 2 (ER (.int (val*2 ^ (6:Int).toNat)))).set 1 (ER (.int b'))).set 2 (ER (.int (val*64+b' % 64))))) ?_ (by with_unfolding_all exact Ia9 8);show Exs _ _ _ _ _ (_::_) _ _ _;have hva:val.natAbs<2 ^ 64:=by omega
          exact .(Exs.cons .(Ida (i:=2) Uu Uu .(Ia1) (Ie1 (by decide) (by decide) hva) Uu) .(Exs.cons .(Ia4 .(Ev.call .(Iah 3 F.b_next) .(Kept.builtin) (Evs.cons .(Ia0 0) .(Evs.nil)) EvK.nil (Ic7 hnx hY)) .(Ia3 1)) .(Exs.cons .(Ida (i:=2) Uu Uu .(Ia2 .(Ia0 1) .(Ia1) .(Op2.and)) (Ibj Ief e1) Uu) .(Exs.nil))))
      . rw[qm2,if_neg hb,if_neg hv] at hp;cases hp
theorem qhj (F:Fac W){l out:List Int}{r:Int}(hY:Y n)(hn:σ[n]?=ER (.iter (qa0 l)))(hp:pv l=ER (r,out)):
    Calls W Y (k+1) fr σ (.glob (.ref A8)) [.loc n] [] [] (.int r) (σ.set n (.iter (qa0 out))):=by
  cases l with
  | nil=>cases hp
  | cons b rest=>
    refine Ib0 (τ:=[]) (F.f8 (.loc n)) (m':=[]) (fl:=.ret (.int r)) (λcd env _=>?_) (by simp) (λc1 c2=>⟨rfl,qe2 c1 (qf6 out)⟩);have hnx:σ[n]?=ER (.iter (.int b::qa0 rest)):=hn;have hp':qm2 (b % 64) b rest=ER (r,out):=hp;have hY':(λm=>Y m\/σ.length<=m) n:=.inl hY;have hw:=qiy F (Y:=λm=>Y m\/σ.length<=m) (cd:=cd) (k:=k) (fr:=env::fr) hY' rest (b % 64) b (σ.set n (.iter (qa0 rest))) (qbv hn) hp';rw[Dr] at hw;have e1:AV.int (AN b 63)=.int (b % 64):=by rw[bitAnd_m6]
    rw[AO];refine Exs.f (Iaf (m2:=[ER (.loc n),Dt,ER (.int r),Dt]) ?_);show Exs _ _ _ _ _ (_::_) _ _ _;exact .(Exs.cons .(Ia4 .(Ev.call .(Iah 3 F.b_next) .(Kept.builtin) (Evs.cons .(Ia0 0) .(Evs.nil)) EvK.nil (Ic7 hnx hY')) .(Ia3 1)) .(Exs.cons .(Ia4 .(Iag .(Ia2 .(Ia0 1) .(Ia1) .(Op2.and)) (e1)) .(Ia3 2)) .(Exs.cons .(Iam (by with_unfolding_all exact WhileC.pre hw (by with_unfolding_all exact Ia9 8))) .(Exs.ret .(Iai .(Ia0 2))))))
theorem qhi (F:Fac W)(hY:Y n)(hn:σ[n]?=ER (.iter [])):
    CallsR W Y (k+1) fr σ (.glob (.ref A8)) [.loc n] [] [] Hr "StopIteration" (λus=>us=[]) (σ.set n .iterDone):=by
  refine (F.f8 (.loc n)).callsR (mk:=Hq) (m':=[ER (.loc n),Dt,Dt,Dt]) λcd env _=>?_
  have hY':(λm=>Y m\/σ.length<=m) n:=.inl hY;show ExsR _ _ _ _ _ (_::_) _ _ _ _ _;refine ExsR.head ?_;with_reducible exact Icz .(EvR.call .(Iah 3 F.b_next) .(Kept.builtin) (Evs.cons .(Ia0 0) .(Evs.nil)) EvK.nil (Ict hn hY'))
noncomputable def Reads:List Int->List Int->Prop
  | [],l=>l=[]
  | n::ns,l=>∃out,pv l=ER (n,out)/\Reads ns out
noncomputable def qhs (t j:Nat):List (Option AV):=[ER (.loc t),ER (.loc j),Dt,Dt,Dt,Dt]
theorem qc0 {a:Int}{c:Int}(h:i<n):(AIt.range a c n).items[i]?=ER (.int (a+(i:Nat)*c)):=by
  simp[AIt.items,h]
noncomputable def ta14:PSigma (λl=>(qbm (nth (qb4 (nth bd14.1 0)) 0))=l):=⟨_,by conv=>lhs;whnf⟩
noncomputable def bo14:PSigma (λl=>(qb4 (nth (qb4 (nth bd14.1 0)) 0))=l):=⟨_,by conv=>lhs;whnf⟩
theorem qms (F:Fac W){t:Nat}(hYt:Y t)(hYj:Y j)(htj:t≠j):∀(ns done l:List Int) (i:Nat) (σ:List AObj),σ[t]?=ER (.iter (qa0 l))->σ[j]?=ER (.lst (qa0 done))->Reads ns l->i+ns.length<20->done.length+ns.length<=1000->
    ForR ⟨W,Y,nm14.1,cd⟩ (k+1) fr ta14.1 bo14.1 [] (.range 0 1 20) i (qhs t j) σ "StopIteration" (λus=>us=[]) (qhs t j) ((σ.set j (.lst (qa0 (done++ns)))).set t .iterDone):=by
  intro ns;induction ns with
  | nil=>
    intro done l i σ ht hj hr hi hz;obtain rfl:l=[]:=hr;rw[AO,qfc hj];have hi:i<20:=by simpa using hi
    refine ForR.here (m1:=(qhs t j).set 2 (ER (.int (0+(i:Nat)*1)))) (z1:=σ) Bo rfl (qc0 hi) nofun ?_ ?_
    . show As _ _ _ _ _ (.Name _ _) _ _ _;exact .(Ia3 2)
    . have hc:=qhi F (k:=k) (fr:=fr) hYt ht;have hkp:=(F.f8 .none).kept;refine ExsR.post (m2:=(qhs t j).set 2 (ER (.int (0+(i:Nat)*1)))) ?_ (Weak.set rfl);show ExsR _ _ _ _ _ (_::_) _ _ _ _ _;refine ExsR.head ?_;with_reducible exact ExR.expr .(Id1 .(Ia0 1) (by exact Meth.append (Lv.loc hj)) Kept.builtin .(EvR.call .(Iad 4 F.g_parse_varint) hkp (Evs.cons .(Ia0 0) .(Evs.nil)) EvK.nil hc))
  | cons n ns ih=>
    intro done l i σ ht hj hr hi hz;refine qa4 (hr) ?_;(try clear hr);intro out hp hr;have hi':i+(ns.length+1)<20:=hi;have hi:i<20:=by lia
    have hc:=qhj F (k:=k) (fr:=fr) hYt ht hp;have hkp:=(F.f8 .none).kept;have hj':(σ.set t (.iter (qa0 out)))[j]?=ER (.lst (qa0 done)):=by rw[qav htj];exact hj
    have ht':((σ.set t (.iter (qa0 out))).set j (.lst (qa0 done++[.int n])))[t]?=ER (.iter (qa0 out)):=by rw[qav (B5 htj)];exact qbv ht
    have hw:=ih (done++[n]) out (i+1) _ ht' (by rw[qbv hj'];simp[qa0]) hr (by lia) (by simp at hz ⊢;lia);have e:(((((σ.set t (.iter (qa0 out))).set j (.lst (qa0 done++[.int n])))).set j (.lst (qa0 (done++[n]++ns)))).set t .iterDone)=(σ.set j (.lst (qa0 (done++n::ns)))).set t .iterDone:=by
      rw[Dr,Fe _ _ htj,Dr];simp
    rw[e] at hw;have hzz:(qa0 done).length<=Ai:=by rw[qa0,Ah,AB];lia
    refine ForR.next (m1:=(qhs t j).set 2 (ER (.int (0+(i:Nat)*1)))) (m2:=(qhs t j).set 2 (ER (.int (0+(i:Nat)*1)))) (z1:=σ) Bo rfl (qc0 hi) nofun ?_ ?_ (hw.pre (Weak.set rfl))
    . show As _ _ _ _ _ (.Name _ _) _ _ _;exact .(Ia3 2)
    . show Exs _ _ _ _ _ (_::_) _ _ _;exact .(Exs.cons .(Ex.expr .(Iaj .(Ia0 1) (Meth.append (Lv.loc hj)) .(Kept.builtin) (Evs.cons .(Ev.call .(Iad 4 F.g_parse_varint) (hkp) (Evs.cons .(Ia0 0) .(Evs.nil)) EvK.nil (hc)) .(Evs.nil)) (by with_unfolding_all exact (Calls.append hj' hYj rfl hzz)))) .(Exs.nil))
theorem qld (F:Fac W){t:Nat}{l:List Int}(hYt:Y t)(hYj:Y j)(htj:t≠j)(ht:σ[t]?=ER (.iter (qa0 l)))(hj:σ[j]?=ER (.lst []))(hr:Reads ns l)(hz:ns.length<20):
    Calls W Y (k+2) fr σ (.glob (.ref A14)) [.loc t,.loc j] [] [] (.loc j) ((σ.set j (.lst (qa0 ns))).set t .iterDone):=by
  have hjl:j<σ.length:=(Ar.mp hj).1;refine Ib0 (τ:=[]) (F.f14 (.loc t) (.loc j)) (m':=qhs t j) (fl:=.ret (.loc j)) (λcd env _=>?_) (by simp) (λc1 c2=>⟨?_,qe2 (qe2 c1 (qf6 ns)) rfl⟩)
  . have hYt':(λm=>Y m\/σ.length<=m) t:=.inl hYt;have hYj':(λm=>Y m\/σ.length<=m) j:=.inl hYj;have hl:=qms F (Y:=λm=>Y m\/σ.length<=m) (cd:=cd) (k:=k) (fr:=env::fr) hYt' hYj' htj ns [] l 0 σ ht hj hr (by lia) (by simp;lia);rw[AO];rw[Dh] at hl;show ExsF _ _ _ _ _ _ (_::_) _ _ _;refine ExsF.ret ?_;show ExF _ _ _ _ _ _ (.Try (_::_) _ _ _ _) _ _ _;with_reducible refine Idh (i:=5) (j:=1) (X:="StopIteration") (T:="StopIteration") (P:=λus=>us=[]) (m1:=qhs t j) ?_ (by decide) (by decide) (by rw[BY];kernel_rfl) (by rw[BY];kernel_rfl) (by rw[BY];kernel_rfl) Uu F.b_StopIteration.g F.b_StopIteration.b Uu Uu
    with_reducible exact ExsR.head .(Ie4 .(ItE.call .(Iah 3 F.b_range) .(Kept.type) (Evs.cons .(Ia1) .(Evs.nil)) .(Iaz (by decide))) (by with_unfolding_all exact hl))
  . show AV.loc j=frz σ.length _ (.loc j);exact (qbq (.loc j) (decide_eq_true hjl)).symm
end
section
noncomputable def flagNames:List Hv:=["OPTIMIZED","NEWLOCALS","VARARGS","VARKEYWORDS","NESTED","GENERATOR","NOFREE","COROUTINE","ITERABLE_COROUTINE","ASYNC_GENERATOR"]
noncomputable def qcf (p:Nat):Hv:=if p<10 then flagNames.getD p "" else Er "0x" 16 (2 ^ p)
noncomputable def qpr (p:Nat):Hv:=(((flagTab.map (·.1)).zip (flagTab.map (·.2))).lookup (2 ^ p)).getD (Er "0x" 16 (2 ^ p))
theorem qjp:∀p:Fin 32,qpr p=qcf p:=by decide +kernel
theorem qda:∀p:Fin 32,(qcf p).length<=30/\(Er "0x" 16 (2 ^ (p:Nat))).length<=100/\Bz (qcf p)=Hq:=by decide +kernel
theorem qp4 (p:Fin 10):(qb7 flagNames)[(p:Nat)]?=ER (.str (qcf p)):=by
  rw[qcf,if_pos p.2,qb7,Ao,BF,Aj (show (p:Nat)<flagNames.length from p.2)];rfl
noncomputable def qbg (ps:List Nat):List Hv:=if ps=[] then ["0x0"] else ps.map qcf
theorem qgg (hps:∀p∈ps,p<32)(hz:ps.length<=100):((qbg ps).map (·.length)).sum+(qbg ps).length*(Bh ", ").length<=16777216:=by
  have key:∀(l:List Nat),(∀p∈l,p<32)->((l.map qcf).map (·.length)).sum<=30*l.length:=by
    intro l;induction l with
    | nil=>intro _;simp
    | cons a l ih=>
      intro h;have h1:=(qda ⟨a,h a Ac⟩).1;have h2:=ih λp hp=>h p (Ak _ hp)
      simp only[Bp,Ce,Bu] at h1 ⊢;lia
  have hc:(Bh ", ").length=2:=by decide
  rw[hc];unfold qbg;split
  . decide
  . have:=key ps hps;rw[Ah];lia
theorem ql7 (F:Fac W)(hps:∀p∈ps,p<32)(hz:ps.length<=100):Exs ⟨W,Y,nm15.1,cd⟩ k fr [ER (.lst (ps.map λp=>.int (p:Nat))),Dt,Dt] σ bd15.1 (.ret (.str (FW ", " (qbg ps)))) [] σ:=by
  refine Iaf (m2:=([ER (.lst (ps.map λp=>.int (p:Nat))),Dt,Dt].set 1 (ER (.lst (qb7 flagNames)))).set 2 (ER (.lst (ps.map λp=>.str (qcf p))))) ?_;show Exs _ _ _ _ _ (_::_) _ _ _;have hw1:∀p∈ps,decide ((p:Int)<10)=Hq->(qb7 flagNames)[p]?=ER (.str (qcf p)):=λp hp h=>by
    have h:p<10:=by simp at h;lia
    exact qp4 ⟨p,h⟩
  have hw2:∀p∈ps,decide ((p:Int)<10)=Hr->AV.str (Er "0x" 16 (2 ^ (p:Int).toNat))=.str (qcf p):=λp hp h=>by
    have h:¬p<10:=by simp at h;lia
    rw[qcf,if_neg h];rfl
  have hw3:∀p∈ps,(Er "0x" 16 (2 ^ (p:Int).toNat)).length<=Ai:=λp hp=>by
    have:=(qda ⟨p,hps p hp⟩).2.1;exact Af this (by decide)
  have hp0:∀p:Nat,(0:Int)<=p/\((p<32)->(p:Int)<=1000000):=λp=>⟨by simp +arith,by lia⟩
  have hsp:Txt.words "OPTIMIZED NEWLOCALS VARARGS VARKEYWORDS NESTED GENERATOR NOFREE COROUTINE ITERABLE_COROUTINE ASYNC_GENERATOR"=flagNames:=by decide +kernel
  have hs1:(Bh "OPTIMIZED NEWLOCALS VARARGS VARKEYWORDS NESTED GENERATOR NOFREE COROUTINE ITERABLE_COROUTINE ASYNC_GENERATOR").length<=Ai:=by decide +kernel
  have hs2:(PySem.Builtin.Str.spaceWords "OPTIMIZED NEWLOCALS VARARGS VARKEYWORDS NESTED GENERATOR NOFREE COROUTINE ITERABLE_COROUTINE ASYNC_GENERATOR" ((Bh "OPTIMIZED NEWLOCALS VARARGS VARKEYWORDS NESTED GENERATOR NOFREE COROUTINE ITERABLE_COROUTINE ASYNC_GENERATOR").length+1)).length<=Ai:=by decide +kernel
  have hpf:plain (.lst (qb7 flagNames))=Hq:=by decide +kernel
  have hzz:ps.length<=2 ^ 20:=by lia
  have hnz:(qb7 flagNames).length<=Ai:=by decide +kernel
  have hD:D1 64 (.lst (ps.map λp=>AV.str (qcf p))):=D1.lst (d:=63) λp hp=>D1.str (qda ⟨p,hps p hp⟩).2.2
  have hne:(decide (ps≠[]))=Hq↔AV.lst (ps.map λp=>AV.str (qcf p))≠.lst []:=by
    rw[decide_eq_true_iff];constructor
    . intro h e;injection e with e;exact h (Eh.mp e)
    . intro h e;exact h (by rw[e];rfl)
  have he1:decide (ps≠[])=Hq->AV.lst (ps.map λp=>AV.str (qcf p))=.lst (qb7 (qbg ps)):=λh=>by
    rw[qbg,if_neg (of_decide_eq_true h),qb7,BL];rfl
  have he2:decide (ps≠[])=Hr->AV.lst [.str "0x0"]=.lst (qb7 (qbg ps)):=λh=>by
    rw[qbg,if_pos (Decidable.not_not.mp (of_decide_eq_false h))];rfl
  exact .(Exs.cons .(Ia4 .(Iaj .(Ia7) (by exact Ide) .(Kept.builtin) Evs.nil (by with_unfolding_all exact (Id5 hsp hs1 hs2))) .(Ibz 1 (hp:=(by assumption)))) .(Exs.cons .(Iar (i:=2) Uu .(ItE.list .(Ia0 0) .(Lv.fz)) (CompIn.of [Dt,Dt,Dt,ER 1] (by kernel_rfl) (by kernel_rfl)) .(CompC.map (hp:=by with_unfolding_all exact qa9 (λ_=>rfl) _) (hz:=by assumption) Uu (ps) ((λp:Nat=>AV.int p)) ((λp=>AV.str (qcf p))) _ (λx hx=>.(Ia3 1)) (λx hx=>.(Ics .(Tr.cmp .(Ia0 1) .(Ia1) .(Ial)) (λhc=>.(Iaa .(Ia5 3) .(Ia0 1) .(Lv.fz) (by exact qbi rfl (hw1 x hx hc)) (by exact hnz))) (λhc=>.(Iag .(Ev.call .(Iah 2 F.b_hex) .(Kept.builtin) (Evs.cons .(Ia2 .(Ia1) .(Ia0 1) (Icx (hp0 x).1 ((hp0 x).2 (hps x hx)) (by decide))) .(Evs.nil)) EvK.nil (Ibp (hw3 x hx))) (hw2 x hx hc))))) .(λ_=>Weak.set Uu)) .(qa9 (λ_=>Uu) _)) .(Exs.ret .(Iai .(Iaj .(Ia7) (by exact Meth.join) .(Kept.builtin) (Evs.cons .(Ics .(Tr.cmp .(Ia0 2) .(Ev.list Evs.nil) (Op2.ne (Dv.of hD) (Dv.of D1.nil) hne)) (λhc=>.(Iag .(Ia0 2) (he1 hc))) (λhc=>.(Iag .(Ev.list (Evs.cons .(Ia7) .(Evs.nil))) (he2 hc)))) .(Evs.nil)) (by with_unfolding_all exact (Calls.join Lv.fz (qgg hps hz))))))))
theorem qiw (F:Fac W)(hps:∀p∈ps,p<32)(hz:ps.length<=100):Calls W Y (k+1) fr σ (.glob (.ref A15)) [.lst (ps.map λp=>.int (p:Nat))] [] [] (.str (FW ", " (qbg ps))) σ:=
  Iaq (F.f15 _ (qaq (λ_=>rfl) _)) (λcd env _=>(ql7 F hps hz).f) rfl rfl
noncomputable def qa7 (ps:List Nat):Int:=(ps.map λp=>(2:Int) ^ p).sum
theorem qcd (p:Nat)(ps:List Nat):qa7 (p::ps)=2 ^ p+qa7 ps:=by simp[qa7]
theorem qdo (p:Nat):(0:Int)<2 ^ p:=Int.pow_pos (by decide)
theorem qe1:(∀p∈ps,i<=p)->∃q:Int,0<=q/\qa7 ps=2 ^ i*q:=by
  induction ps with
  | nil=>exact λ_=>⟨0,by decide,by simp[qa7]⟩
  | cons p ps ih=>
    intro h;refine qa4 (ih λp hp=>h p (Ak _ hp)) ?_;intro q h1 h2;have hp:=h p Ac;refine ⟨2 ^ (p - i)+q,by have:=qdo (p - i);lia,?_⟩;rw[qcd,h2,Int.mul_add,<- Int.pow_add,CU hp]
theorem qjq (h:ps≠[]):0<qa7 ps:=by
  cases ps with
  | nil=>exact absurd rfl h
  | cons p ps=>
    refine qa4 (qe1 (i:=0) (ps:=ps) λ_ _=>AJ _) ?_;intro q h1 h2;rw[qcd,h2];have:=qdo p;simp at *;lia
theorem qv3 (h:∀p∈ps,i+1<=p):(AN (qa7 ps) (2 ^ i) != 0)=Hr:=by
  refine qa4 (qe1 h) ?_;intro q h1 h2;rw[kbt_bit,h2,GL,Int.mul_assoc,Int.mul_ediv_cancel_left _ (GM (qdo i))];have:(2*q) % 2=0:=by simp +arith
  rw[this];simp
theorem qog (h:∀p∈ps,i+1<=p):AN (qa7 (i::ps)) (2 ^ i)=2 ^ i/\Da (qa7 (i::ps)) (2 ^ i)=qa7 ps:=by
  refine qa4 (qe1 h) ?_;intro q h1 h2;have e:AN (qa7 (i::ps)) (2 ^ i)=2 ^ i:=by
    have e2:qa7 (i::ps)=2 ^ i*(1+2*q):=by
      rw[qcd,h2,GL,Int.mul_add,Int.mul_one,Int.mul_assoc]
    rw[kbt_bit,e2,Int.mul_ediv_cancel_left _ (GM (qdo i))];have:(1+2*q) % 2=1:=by simp +arith
    rw[this,Int.one_mul]
  refine ⟨e,?_⟩;rw[bitXor_and,e,qcd];simp +arith
noncomputable def ta7:PSigma (λl=>(qbm (nth bd7.1 1))=l):=⟨_,by conv=>lhs;whnf⟩
noncomputable def bo7:PSigma (λl=>(qb4 (nth bd7.1 1))=l):=⟨_,by conv=>lhs;whnf⟩
noncomputable def el7:PSigma (λl=>(qo3 (nth bd7.1 1))=l):=⟨_,by conv=>lhs;whnf⟩
section
variable (F:Fac W)
noncomputable def flM (f:Int) (j:Nat):List (Option AV):=[ER (.int f),ER (.loc j),Dt,Dt,Dt,Dt,Dt]
theorem qnz (hi:i<32):(0:Int)<=0+(i:Nat)*1/\(0:Int)+(i:Nat)*1<=1000000/\AV.int (1*2 ^ ((0:Int)+(i:Nat)*1).toNat)=.int (2 ^ i):=by
  refine ⟨by simp +arith,by lia,?_⟩;have:((0:Int)+(i:Nat)*1).toNat=i:=by simp +arith
  rw[this,Int.one_mul]
theorem qus (hi:i<32)(h:∀p∈ps,i+1<=p):Exs ⟨W,Y,nm7.1,cd⟩ k fr ((flM (qa7 ps) j).set 2 (ER (.int (0+(i:Nat)*1)))) σ bo7.1 .next (flM (qa7 ps) j) σ:=by
  refine Exs.post (m2:=((flM (qa7 ps) j).set 2 (ER (.int (0+(i:Nat)*1)))).set 3 (ER (.int (2 ^ i)))) ?_ (by with_unfolding_all exact Ia9 124);refine qgb (qnz hi) ?_;intro h1 h2 h3;have hb:=qv3 h;show Exs _ _ _ _ _ (_::_) _ _ _;exact .(Exs.cons .(Ia4 .(Iag .(Ia2 .(Ia1) .(Ia0 2) (Ibd h1 h2 (by decide))) (h3)) .(Ia3 3)) .(Exs.cons .(Ia6 (c:=Hr) .(Iab .(Tr.val .(Ia2 .(Ia0 0) .(Ia0 3) .(Op2.and)) (Tv.int)) hb) (λh=>nomatch h) (λ_=>.(Exs.nil))) .(Exs.nil)))
theorem qny (hi:i<32):AV.str ((((flagTab.map (·.1)).zip (flagTab.map (·.2))).lookup ((2:Int) ^ i)).getD (Er "0x" 16 (2 ^ i)))=.str (qcf i):=congrArg AV.str (qjp ⟨i,hi⟩)
theorem qqt (hi:i<32):(Er "0x" 16 (2 ^ i)).length<=Ai:=Af (qda ⟨i,hi⟩).2.1 (by decide)
include F in
theorem qsj (hi:i<32){acc:List Hv}(hj:σ[j]?=ER (.lst (qb7 acc)))(hY:Y j)(hz:acc.length<=100):Exs ⟨W,Y,nm7.1,cd⟩ k fr ((flM (qa7 [i]) j).set 2 (ER (.int (0+(i:Nat)*1)))) σ bo7.1 .brk [Dt,ER (.loc j),Dt,Dt,Dt,Dt,Dt] (σ.set j (.lst (qb7 acc++[.str (qcf i)]))):=by
  refine Exs.post (m2:=(((flM (qa7 [i]) j).set 2 (ER (.int (0+(i:Nat)*1)))).set 3 (ER (.int (2 ^ i)))).set 0 (ER (.int (qa7 [])))) ?_ (by with_unfolding_all exact Ia9 125);refine qgb (qnz hi) ?_;intro h1 h2 h3;refine AC ?_ (qog (i:=i) (ps:=[]) (λ_ h=>absurd h BN));intro hb hx;have ht:(AN (qa7 [i]) (2 ^ i) != 0)=Hq:=by rw[hb];simp;exact GM (qdo i)
  have hx':AV.int (Da (qa7 [i]) (2 ^ i))=.int (qa7 []):=congrArg AV.int hx;have hn:(!(qa7 [] != 0))=Hq:=by decide
  have hzz:(qb7 acc).length<=Ai:=by rw[qb7,Ah,AB];lia
  have hg:=qny hi;have hh:=qqt hi;show Exs _ _ _ _ _ (_::_) _ _ _;exact .(Exs.cons .(Ia4 .(Iag .(Ia2 .(Ia1) .(Ia0 2) (Ibd h1 h2 (by decide))) (h3)) .(Ia3 3)) .(Exs.brk .(Ia6 (c:=Hq) .(Iab .(Tr.val .(Ia2 .(Ia0 0) .(Ia0 3) .(Op2.and)) (Tv.int)) ht) (λ_=>.(Exs.cons .(Ex.expr .(Iaj .(Ia0 1) (by exact Meth.append .(Lv.loc (by assumption))) .(Kept.builtin) (Evs.cons .(Iaj .(Iad 5 F.g_COMPILER_FLAG_NAMES) (by exact MethOk.tab F.tab) .(Kept.builtin) (Evs.cons .(Ia0 3) .((Evs.cons .(Ev.call .(Iah 6 F.b_hex) .(Kept.builtin) (Evs.cons .(Ia0 3) .(Evs.nil)) EvK.nil (Ibp hh)) .(Evs.nil)))) (by with_unfolding_all exact (Ian (Calls.get F.tab) hg rfl))) .(Evs.nil)) (by with_unfolding_all exact (Calls.append hj hY rfl hzz)))) .(Exs.cons .(Ida (i:=0) Uu Uu .(Ia0 3) (Ibj Id8 hx') Uu) .(Exs.brk .(Ia6 (c:=Hq) .(Iab .(Ido .(Tr.val .(Ia0 0) (Tv.int))) hn) (λ_=>.(Exs.brk .(Idu))) (λh=>nomatch h)))))) (λh=>nomatch h))))
include F in
theorem qsg (hi:i<32)(h:∀p∈ps,i+1<=p)(hne:ps≠[]){acc:List Hv}(hj:σ[j]?=ER (.lst (qb7 acc)))(hY:Y j)(hz:acc.length<=100):Exs ⟨W,Y,nm7.1,cd⟩ k fr ((flM (qa7 (i::ps)) j).set 2 (ER (.int (0+(i:Nat)*1)))) σ bo7.1 .next (flM (qa7 ps) j) (σ.set j (.lst (qb7 acc++[.str (qcf i)]))):=by
  refine Exs.post (m2:=(((flM (qa7 (i::ps)) j).set 2 (ER (.int (0+(i:Nat)*1)))).set 3 (ER (.int (2 ^ i)))).set 0 (ER (.int (qa7 ps)))) ?_ (by with_unfolding_all exact Ia9 124);refine qgb (qnz hi) ?_;intro h1 h2 h3;refine AC ?_ (qog (i:=i) (ps:=ps) h);intro hb hx;have ht:(AN (qa7 (i::ps)) (2 ^ i) != 0)=Hq:=by rw[hb];simp;exact GM (qdo i)
  have hx':AV.int (Da (qa7 (i::ps)) (2 ^ i))=.int (qa7 ps):=congrArg AV.int hx;have hn:(!(qa7 ps != 0))=Hr:=by have:=qjq hne;simp;lia
  have hzz:(qb7 acc).length<=Ai:=by rw[qb7,Ah,AB];lia
  have hg:=qny hi;have hh:=qqt hi;show Exs _ _ _ _ _ (_::_) _ _ _;exact .(Exs.cons .(Ia4 .(Iag .(Ia2 .(Ia1) .(Ia0 2) (Ibd h1 h2 (by decide))) (h3)) .(Ia3 3)) .(Exs.cons .(Ia6 (c:=Hq) .(Iab .(Tr.val .(Ia2 .(Ia0 0) .(Ia0 3) .(Op2.and)) (Tv.int)) ht) (λ_=>.(Exs.cons .(Ex.expr .(Iaj .(Ia0 1) (by exact Meth.append .(Lv.loc (by assumption))) .(Kept.builtin) (Evs.cons .(Iaj .(Iad 5 F.g_COMPILER_FLAG_NAMES) (by exact MethOk.tab F.tab) .(Kept.builtin) (Evs.cons .(Ia0 3) .((Evs.cons .(Ev.call .(Iah 6 F.b_hex) .(Kept.builtin) (Evs.cons .(Ia0 3) .(Evs.nil)) EvK.nil (Ibp hh)) .(Evs.nil)))) (by with_unfolding_all exact (Ian (Calls.get F.tab) hg rfl))) .(Evs.nil)) (by with_unfolding_all exact (Calls.append hj hY rfl hzz)))) .(Exs.cons .(Ida (i:=0) Uu Uu .(Ia0 3) (Ibj Id8 hx') Uu) .(Exs.cons .(Ia6 (c:=Hr) .(Iab .(Ido .(Tr.val .(Ia0 0) (Tv.int))) hn) (λh=>nomatch h) (λ_=>.(Exs.nil))) .(Exs.nil))))) (λh=>nomatch h)) .(Exs.nil)))
theorem qps {f:Int}:As ⟨W,Y,nm7.1,cd⟩ k fr (flM f j) σ ta7.1 (.int (0+(i:Nat)*1)) ((flM f j).set 2 (ER (.int (0+(i:Nat)*1)))) σ:=by
  show As _ _ _ _ _ (.Name _ _) _ _ _;exact .(Ia3 2)
include F in
theorem qsi:∀(n i:Nat) (rem:List Nat) (acc:List Hv) (σ:List AObj),i+n=32->rem≠[]->(∀p∈rem,i<=p/\p<32)->rem.Pairwise (· < ·)->σ[j]?=ER (.lst (qb7 acc))->Y j->acc.length+n<=100->
    ForC ⟨W,Y,nm7.1,cd⟩ k fr ta7.1 bo7.1 el7.1 (.range 0 1 32) i (flM (qa7 rem) j) σ .next [Dt,ER (.loc j),Dt,Dt,Dt,Dt,Dt] (σ.set j (.lst (qb7 (acc++rem.map qcf)))):=by
  intro n;induction n with
  | zero=>
    intro i rem acc σ hi hne hr hs hj hY hz;cases rem with
    | nil=>exact absurd rfl hne
    | cons p ps=>have:=hr p Ac;lia
  | succ n ih=>
    intro i rem acc σ hi hne hr hs hj hY hz;have hi':i<32:=by lia
    cases rem with
    | nil=>exact absurd rfl hne
    | cons p ps=>
      have hp:=hr p Ac;rw[AG] at hs;by_cases hpi:p=i
      . subst hpi;by_cases hps:ps=[]
        . subst hps;have:=ForC.brk (orelse:=el7.1) (m:=flM (qa7 [p]) j) (k:=k) (fr:=fr) (ai:=.range 0 1 32) Bo rfl (qc0 hi') nofun (qps (W:=W) (Y:=Y) (cd:=cd) (i:=p) (σ:=σ)) (qsj F hi' hj hY (by lia));simpa [qb7] using this
        . have h:=ih (p+1) ps (acc++[qcf p]) (σ.set j (.lst (qb7 acc++[.str (qcf p)]))) (by lia) hps (λq hq=>⟨hs.1 q hq,(hr q (Ak _ hq)).2⟩) hs.2 (by rw[qbv hj];simp[qb7]) hY (by simp;lia);rw[Dr,AF] at h;exact ForC.next Bo rfl (qc0 hi') nofun qps (qsg F hi' (λq hq=>hs.1 q hq) hps hj hY (by lia)) h
      . have h:=ih (i+1) (p::ps) acc σ (by lia) hne (λq hq=>⟨by
          rcases Aw.mp hq with rfl | hq
          . lia
          . have:=hs.1 q hq;lia,(hr q hq).2⟩) (AG.mpr hs) hj hY (by lia)
        exact ForC.next Bo rfl (qc0 hi') nofun qps (qus hi' λq hq=>by
          rcases Aw.mp hq with rfl | hq
          . lia
          . have:=hs.1 q hq;lia) h
include F in
theorem qsf:∀(n i:Nat) (σ:List AObj),i+n=32->σ[j]?=ER (.lst [])->Y j->
    ForC ⟨W,Y,nm7.1,cd⟩ k fr ta7.1 bo7.1 el7.1 (.range 0 1 32) i (flM (qa7 []) j) σ .next [Dt,ER (.loc j),Dt,Dt,Dt,Dt,Dt] (σ.set j (.lst [.str "0x0"])):=by
  intro n;induction n with
  | zero=>
    intro i σ hi hj hY;rw[show ([AV.str "0x0"]:List AV)=[]++[AV.str "0x0"] from rfl];refine ForC.done Bo (by simp[AIt.items];lia) (Exs.post (m2:=flM (qa7 []) j) ?_ (by with_unfolding_all exact Ia9 125));have hz0:(Er "0x" 16 (qa7 [])).length<=Ai:=by decide +kernel
    have hv0:AV.str (Er "0x" 16 (qa7 []))=.str "0x0":=congrArg AV.str (by decide +kernel);show Exs _ _ _ _ _ (_::_) _ _ _;exact .(Exs.cons .(Ex.expr .(Iaj .(Ia0 1) (by exact Meth.append .(Lv.loc (by assumption))) .(Kept.builtin) (Evs.cons .(Ev.call .(Iah 6 F.b_hex) .(Kept.builtin) (Evs.cons .(Ia0 0) .(Evs.nil)) EvK.nil (Ian (Ibp hz0) hv0 rfl)) .(Evs.nil)) (by with_unfolding_all exact (Calls.append hj hY rfl (AJ _))))) .(Exs.nil))
  | succ n ih=>
    intro i σ hi hj hY;have hi':i<32:=by lia
    exact ForC.next Bo rfl (qc0 hi') nofun qps (qus hi' λp hp=>by cases hp) (ih (i+1) σ (by lia) hj hY)
include F in
theorem qjo (hr:∀p∈ps,p<32)(hs:ps.Pairwise (· < ·))(hz:ps.length<=60):Calls W Y (k+1) fr σ (.glob (.ref A7)) [.int (qa7 ps)] [] [] (.str (FW ", " (qbg ps))) σ:=by
  refine Ibw (τ:=[.lst (qb7 (qbg ps))]) (F.f7 (.int (qa7 ps))) (m':=[]) (fl:=.ret (.str (FW ", " (qbg ps)))) (λcd env _=>?_) (λ_ _=>rfl);have hY':(λm=>Y m\/σ.length<=m) σ.length:=.inr (Aq _);have hj:(σ++[AObj.lst []])[σ.length]?=ER (.lst (qb7 [])):=by simp[qb7]
  have hl:ForC ⟨W,λm=>Y m\/σ.length<=m,nm7.1,cd⟩ k (env::fr) ta7.1 bo7.1 el7.1 (.range 0 1 32) 0 (flM (qa7 ps) σ.length) (σ++[AObj.lst []]) .next [Dt,ER (.loc σ.length),Dt,Dt,Dt,Dt,Dt] (σ++[.lst (qb7 (qbg ps))]):=by
    by_cases hps:ps=[]
    . subst hps;have:=qsf F (W:=W) (Y:=λm=>Y m\/σ.length<=m) (cd:=cd) (k:=k) (fr:=env::fr) (j:=σ.length) 32 0 (σ++[AObj.lst []]) rfl (by simp) hY';simpa [qbg,qb7] using this
    . have:=qsi F (Y:=λm=>Y m\/σ.length<=m) (cd:=cd) (k:=k) (fr:=env::fr) (j:=σ.length) 32 0 ps [] (σ++[AObj.lst []]) rfl hps (λp hp=>⟨AJ _,hr p hp⟩) hs hj hY' (by simp);simpa [qbg,hps] using this
  have hL:Lv (σ++[AObj.lst (qb7 (qbg ps))]) (.loc σ.length) (qb7 (qbg ps)):=Lv.loc (by simp);have hwl:=qgg hr (by lia);refine Exs.f (Iaf (m2:=[Dt,ER (.loc σ.length),Dt,Dt,Dt,Dt,Dt]) ?_);show Exs _ _ _ _ _ (_::_) _ _ _;exact .(Exs.cons .(Ia4 .(Ias Evs.nil) .(Ia3 1)) .(Exs.cons .(Ib2 .(ItE.call .(Iah 4 F.b_range) .(Kept.type) (Evs.cons .(Ia1) .(Evs.nil)) .(Iaz (by decide))) (by with_unfolding_all exact ForC.pre hl Weak.refl)) .(Exs.ret .(Iai .(Iaj .(Ia7) (by exact Meth.join) .(Kept.builtin) (Evs.cons .(Ia0 1) .(Evs.nil)) (by with_unfolding_all exact (Calls.join hL hwl)))))))
end
end
section
noncomputable abbrev atE:List Hv:=["makeelement","append","inner","attrib","tag"]
theorem qeg (F:Fac W){tag attr:AV}(hpt:plain tag=Hq)(hpa:plain attr=Hq):
    Calls W Y (k+1) fr σ (.glob (.ref A17)) [tag,attr] [] [] (.loc σ.length) (σ++[.elem atE [.glob (.ref A17),.bound "list.append" (.loc (σ.length+1)),.loc (σ.length+1),attr,tag],.lst []]):=by
  refine Ibg (F.f17 tag attr) (m':=[]) (fl:=.ret (.loc σ.length)) (λcd env hK=>?_) (by simp) rfl rfl;refine qkm (hK) ?_;intro lc lP hLam;have hY:(λm=>Y m\/σ.length<=m) σ.length:=.inr (Aq _);have e0:(σ++[AObj.fn0])[σ.length]?=ER .fn0:=by simp
  have e1:(σ++[AObj.fn0]).set σ.length (.elem ["tag"] [tag])=σ++[.elem ["tag"] [tag]]:=by simp
  have g1:(σ++[AObj.elem ["tag"] [tag]])[σ.length]?=ER (.elem ["tag"] [tag]):=by simp
  have e2:(σ++[AObj.elem ["tag"] [tag]]).set σ.length (.elem ["attrib","tag"] [attr,tag])=σ++[.elem ["attrib","tag"] [attr,tag]]:=by simp
  have l2:(σ++[AObj.elem ["attrib","tag"] [attr,tag]]).length=σ.length+1:=by simp
  have g2:(σ++[AObj.elem ["attrib","tag"] [attr,tag]]++[AObj.lst []])[σ.length]?=ER (.elem ["attrib","tag"] [attr,tag]):=by simp
  have e3:(σ++[AObj.elem ["attrib","tag"] [attr,tag]]++[AObj.lst []]).set σ.length (.elem ["inner","attrib","tag"] [.loc (σ.length+1),attr,tag])=σ++[.elem ["inner","attrib","tag"] [.loc (σ.length+1),attr,tag],.lst []]:=by simp
  have v2:AV.loc (σ++[AObj.elem ["attrib","tag"] [attr,tag]]).length=.loc (σ.length+1):=by rw[l2]
  have g3:(σ++[AObj.elem ["inner","attrib","tag"] [.loc (σ.length+1),attr,tag],.lst []])[σ.length]?=ER (.elem ["inner","attrib","tag"] [.loc (σ.length+1),attr,tag]):=by simp
  have g3':(σ++[AObj.elem ["inner","attrib","tag"] [.loc (σ.length+1),attr,tag],.lst []])[σ.length+1]?=ER (.lst []):=by simp
  have e4:(σ++[AObj.elem ["inner","attrib","tag"] [.loc (σ.length+1),attr,tag],.lst []]).set σ.length (.elem ["append","inner","attrib","tag"] [.bound "list.append" (.loc (σ.length+1)),.loc (σ.length+1),attr,tag])=σ++[.elem ["append","inner","attrib","tag"] [.bound "list.append" (.loc (σ.length+1)),.loc (σ.length+1),attr,tag],.lst []]:=by simp
  have g4:(σ++[AObj.elem ["append","inner","attrib","tag"] [.bound "list.append" (.loc (σ.length+1)),.loc (σ.length+1),attr,tag],.lst []])[σ.length]?=ER (.elem ["append","inner","attrib","tag"] [.bound "list.append" (.loc (σ.length+1)),.loc (σ.length+1),attr,tag]):=by simp
  have e5:(σ++[AObj.elem ["append","inner","attrib","tag"] [.bound "list.append" (.loc (σ.length+1)),.loc (σ.length+1),attr,tag],.lst []]).set σ.length (.elem atE [.glob (.ref A17),.bound "list.append" (.loc (σ.length+1)),.loc (σ.length+1),attr,tag])=σ++[.elem atE [.glob (.ref A17),.bound "list.append" (.loc (σ.length+1)),.loc (σ.length+1),attr,tag],.lst []]:=by simp
  refine Exs.f (Iaf (m2:=[ER tag,ER attr,Dt,Dt].set 2 (ER (.loc σ.length))) ?_);show Exs _ _ _ _ _ (_::_) _ _ _;exact .(Exs.cons .(Ia4 .(Ic5 (hLam _ _) (qnb (by kernel_rfl))) .(Ia3 2)) .(Exs.cons .(Ia4 .(Ia0 0) .(Ibr .(Icm .(Ia0 2) (by exact e0) qfk (by exact hY) (hp:=(by assumption))) e1)) .(Exs.cons .(Ia4 .(Ia0 1) .(Ibr .(Ic9 .(Ia0 2) (by exact g1) qc2 (by exact hY) (hp:=(by assumption))) e2)) .(Exs.cons .(Ia4 .(Iag .(Ias Evs.nil) (v2)) .(Ibr .(Ic9 .(Ia0 2) (by exact g2) qe3 (by exact hY) (hp:=Uu)) e3)) .(Exs.cons .(Ia4 .(Ev.bound .(Iay .(Ia0 2) (by assumption) Uu qe3) (by exact g3')) .(Ibr .(Ic9 .(Ia0 2) (by exact g3) qhl (by exact hY) (hp:=Uu)) e4)) .(Exs.cons .(Ia4 .(Iad 3 F.g_law_element) .(Ibr .(Ic9 .(Ia0 2) (by exact g4) qdt (by exact hY) (hp:=Uu)) e5)) .(Exs.ret .(Iai .(Ia0 2)))))))))
noncomputable abbrev qb6 (F:Ht) (inner attr tag:AV):List AV:=[.glob (.ref F),.bound "list.append" inner,inner,attr,tag]
theorem qkf (F:Fac W){p ip:Nat}{ks':List Hv}{vs':List AV}{as:List Hv}{avs:List AV}{tag base:AV}(hn:n=σ.length)(hp:σ[p]?=ER (.elem as avs))(hm:(as.zip avs).lookup ("makeelement":Hv)=ER (.glob (.ref A17)))(ha:(as.zip avs).lookup ("append":Hv)=ER (.bound "list.append" (.loc ip)))(hi:σ[ip]?=ER (.lst ch))(hYi:Y ip)(hY:∀m,σ.length<=m->Y m)(hD:Dsrc W σ base ks vs)(hpv:plains vs=Hq)(hpv':plains vs'=Hq)(hz:ks.length+ks'.length<=Ai)(hpt:plain tag=Hq)(hz2:ch.length<=Ai){mk:List Hv}{mv:List AV}(hmk:(qad (qad [] [] ks vs).1 (qad [] [] ks vs).2 ks' vs')=(mk,mv)):
    Exs ⟨W,Y,nm11.1,cd⟩ (k+1) fr [ER (.loc p),ER tag,ER base,ER (.loc n),Dt] (σ++[.dstr ks' vs']) bd11.1 (.ret (.loc (n+2))) [] (σ.set ip (.lst (ch++[.loc (n+2)]))++[.dstr ks' vs',.dstr mk mv,.elem atE (qb6 A17 (.loc (n+3)) (.loc (n+1)) tag),.lst []]):=by
  subst hn;have hD':Dsrc W (σ++[.dstr ks' vs']) base ks vs:=by
    rcases hD with ⟨j,h1,h2⟩ | h
    . exact .inl ⟨j,h1,qa6 h2⟩
    . exact .inr h
  have hE:Dsrc W (σ++[.dstr ks' vs']) (.loc σ.length) ks' vs':=.inl ⟨_,rfl,by simp⟩;have hmv1:(qad (qad [] [] ks vs).1 (qad [] [] ks vs).2 ks' vs').1=mk:=by rw[hmk]
  have hmv2:(qad (qad [] [] ks vs).1 (qad [] [] ks vs).2 ks' vs').2=mv:=by rw[hmk]
  have s1:(σ++[AObj.dstr ks' vs']++[.dstr (qad (qad [] [] ks vs).1 (qad [] [] ks vs).2 ks' vs').1 (qad (qad [] [] ks vs).1 (qad [] [] ks vs).2 ks' vs').2])=σ++[AObj.dstr ks' vs',.dstr mk mv]:=by rw[hmv1,hmv2];simp
  have v1:AV.loc (σ++[AObj.dstr ks' vs']).length=.loc (σ.length+1):=by simp
  have l2:(σ++[AObj.dstr ks' vs',.dstr mk mv]).length=σ.length+2:=by simp
  have hp2:(σ++[AObj.dstr ks' vs',.dstr mk mv])[p]?=ER (.elem as avs):=qa6 hp;have hc:=qeg F (Y:=Y) (k:=k) (fr:=fr) (σ:=σ++[AObj.dstr ks' vs',.dstr mk mv]) (tag:=tag) (attr:=.loc (σ.length+1)) hpt rfl;have hkp:=(F.f17 .none .none).kept;rw[l2] at hc;have s2:σ++[AObj.dstr ks' vs',.dstr mk mv]++[.elem atE [.glob (.ref A17),.bound "list.append" (.loc (σ.length+2+1)),.loc (σ.length+2+1),.loc (σ.length+1),tag],.lst []]=σ++[AObj.dstr ks' vs',.dstr mk mv,.elem atE (qb6 A17 (.loc (σ.length+3)) (.loc (σ.length+1)) tag),.lst []]:=by simp[qb6]
  rw[s2] at hc;have hp3:(σ++[AObj.dstr ks' vs',.dstr mk mv,.elem atE (qb6 A17 (.loc (σ.length+3)) (.loc (σ.length+1)) tag),.lst []])[p]?=ER (.elem as avs):=qa6 hp;have hi3:(σ++[AObj.dstr ks' vs',.dstr mk mv,.elem atE (qb6 A17 (.loc (σ.length+3)) (.loc (σ.length+1)) tag),.lst []])[ip]?=ER (.lst ch):=qa6 hi;have s3:(σ++[AObj.dstr ks' vs',.dstr mk mv,.elem atE (qb6 A17 (.loc (σ.length+3)) (.loc (σ.length+1)) tag),.lst []]).set ip (.lst (ch++[.loc (σ.length+2)]))=σ.set ip (.lst (ch++[.loc (σ.length+2)]))++[.dstr ks' vs',.dstr mk mv,.elem atE (qb6 A17 (.loc (σ.length+3)) (.loc (σ.length+1)) tag),.lst []]:=set_app (qeb hi);have hb:=Ian (Calls.bound (W:=W) (Y:=Y) (k:=k+1) (fr:=fr) (v:=.loc (σ.length+2)) hi3 hYi rfl hz2) rfl s3;refine Iaf (m2:=([ER (.loc p),ER tag,ER base,ER (.loc σ.length),Dt].set 2 (ER (.loc (σ.length+1)))).set 4 (ER (.loc (σ.length+2)))) ?_;show Exs _ _ _ _ _ (_::_) _ _ _;exact .(Exs.cons .(Ia4 .(Ic4 .(Ie6 (i:=2) (j:=3) Uu Uu Uu Uu hD' hE hpv hpv' hz) s1 v1) .(Ia3 2)) .(Exs.cons .(Ia4 .(Iaj .(Ia0 0) ((by exact MethOk.elem hp2 hm qdt)) (hkp) (Evs.cons .(Ia0 1) .((Evs.cons .(Ia0 2) .(Evs.nil)))) (by with_unfolding_all exact (hc))) .(Ia3 4)) .(Exs.cons .(Ex.expr .(Iaj .(Ia0 0) ((by exact MethOk.elem hp3 ha qhl)) .(Kept.bound) (Evs.cons .(Ia0 4) .(Evs.nil)) (by with_unfolding_all exact (hb)))) .(Exs.ret .(Iai .(Ia0 4))))))
section
variable (F:Fac W) {p ip:Nat} {ks':List Hv} {vs':List AV} {as:List Hv} {avs:List AV} {tag base:AV}
include F in
theorem qte {t:Nat}(hp:σ[p]?=ER (.elem as avs))(hm:(as.zip avs).lookup ("makeelement":Hv)=ER (.glob (.ref A17)))(ha:(as.zip avs).lookup ("append":Hv)=ER (.bound "list.append" (.loc ip)))(hi:σ[ip]?=ER (.lst ch))(hYi:Y ip)(ht:σ[t]?=ER (.dstr ks vs))(hpv:plains vs=Hq)(hpv':plains vs'=Hq)(hz:ks.length+ks'.length<=Ai)(hpt:plain tag=Hq)(hz2:ch.length<=Ai)(hnd:ks'.Nodup)(hl:ks'.length=vs'.length)(hx:∀x∈ks',x∉(["parent","tag","attrib"]:List Hv)){mk:List Hv}{mv:List AV}(hmk:(qad (qad [] [] ks vs).1 (qad [] [] ks vs).2 ks' vs')=(mk,mv)):
    Calls W Y (k+2) fr σ (.glob (.ref A11)) [.loc p,tag,.loc t] ks' vs' (.loc (σ.length+2)) (σ.set ip (.lst (ch++[.loc (σ.length+2)]))++[.dstr ks' vs',.dstr mk mv,.elem atE (qb6 A17 (.loc (σ.length+3)) (.loc (σ.length+1)) tag),.lst []]):=
  FnX.calls (F.f11t (.loc p) tag (.loc t) ks' vs' hnd hl hpv' hx (by lia)) (λcd env=>qkf F rfl hp hm ha hi (.inl hYi) (λm hm=>.inr hm) (.inl ⟨t,rfl,ht⟩) hpv hpv' hz hpt hz2 hmk) (by simp) rfl rfl
include F in
theorem qtf (hp:σ[p]?=ER (.elem as avs))(hm:(as.zip avs).lookup ("makeelement":Hv)=ER (.glob (.ref A17)))(ha:(as.zip avs).lookup ("append":Hv)=ER (.bound "list.append" (.loc ip)))(hi:σ[ip]?=ER (.lst ch))(hYi:Y ip)(hpv':plains vs'=Hq)(hz:ks'.length<=100)(hpt:plain tag=Hq)(hz2:ch.length<=Ai)(hnd:ks'.Nodup)(hl:ks'.length=vs'.length)(hx:∀x∈ks',x∉(["parent","tag","attrib"]:List Hv)){mk:List Hv}{mv:List AV}(hmk:(qad [] [] ks' vs')=(mk,mv)):
    Calls W Y (k+2) fr σ (.glob (.ref A11)) [.loc p,tag] ks' vs' (.loc (σ.length+2)) (σ.set ip (.lst (ch++[.loc (σ.length+2)]))++[.dstr ks' vs',.dstr mk mv,.elem atE (qb6 A17 (.loc (σ.length+3)) (.loc (σ.length+1)) tag),.lst []]):=
  FnX.calls (F.f11d (.loc p) tag ks' vs' hnd hl hpv' hx (by rw[AB];lia)) (λcd env=>qkf F (ks:=[]) (vs:=[]) rfl hp hm ha hi (.inl hYi) (λm hm=>.inr hm) (F.dsrc _) rfl hpv' (by rw[AB];simp;lia) hpt hz2 hmk) (by simp) rfl rfl
include F in
theorem qnn {b:Bool}(hc:∀Y,Calls W Y k fr σ (.glob (.builtin "hasattr")) [v,.str "tag"] [] [] (.bool b) σ):Exs ⟨W,Y,nm10.1,cd⟩ k fr [ER v,Dt] σ bd10.1 (.ret (.bool b)) [] σ:=by
  refine Iaf (m2:=[ER v,Dt]) ?_;have hc:=hc Y;show Exs _ _ _ _ _ (_::_) _ _ _;exact .(Exs.ret .(Iai .(Ev.call .(Iah 1 F.b_hasattr) .(Kept.builtin) (Evs.cons .(Ia0 0) .((Evs.cons .(Ia7) .(Evs.nil)))) EvK.nil (hc))))
include F in
theorem qui {b:Bool}(hc:∀k fr Y,Calls W Y k fr σ (.glob (.builtin "hasattr")) [v,.str "tag"] [] [] (.bool b) σ):Calls W Y (k+1) fr σ (.glob (.ref A10)) [v] [] [] (.bool b) σ:=
  Iaq (F.f10 v) (λcd env _=>(qnn F (hc k (env::fr))).f) rfl rfl
end
end
section
section
variable (c:Nat->Int)
noncomputable def qae:List AV:=[.int (c 0),.int (c 1),.int (c 2),.int (c 3),.int (c 4),.int (c 5),.int (c 6)]
noncomputable abbrev tn (t:Nat):Int:=max (t:Int) 1
noncomputable abbrev qd9 (t:Nat):Int:=(c t).fdiv (tn t)
noncomputable abbrev qoo (t:Nat):Int:=(c t).fmod (tn t)
noncomputable abbrev dI (t:Nat):Int:=(qd9 c t).fmod 9 - 3
noncomputable abbrev eI (t:Nat):Int:=((qd9 c t).fdiv 9).fmod 3+1
noncomputable abbrev qe6 (t:Nat):AV:=.tup [.int (qoo c t),.int (dI c t),.int (eI c t)]
noncomputable abbrev qab:List AV:=(Ae 6).map (qe6 c)
end
theorem qr4 {t:Nat}(h:t∈Ae 6):tn t≠0/\(tn t).natAbs<2 ^ 64:=
  (by decide:∀t∈Ae 6,tn t≠0/\(tn t).natAbs<2 ^ 64) t h
theorem qds {t:Nat}(h:t<7):(qae c)[t]?=ER (.int (c t)):=by
  rcases t with _|_|_|_|_|_|_|t
  iterate 7 rfl
  exact absurd (Cv (Cr 7 t) h) (C0 7)
theorem qlf (F:Fac W):Exs ⟨W,Y,nm16.1,cd⟩ k fr [ER (.lst (qae c)),Dt,Dt] σ bd16.1 (.ret (.lst (qab c))) [] σ:=by
  refine Iaf (m2:=[ER (.lst (qae c)),Dt,Dt].set 1 (ER (.lst ((Ae 6).map λt=>.int (qd9 c t))))) ?_;show Exs _ _ _ _ _ (_::_) _ _ _;have hs:AV.lst (qbo (qae c) Dt (ER 6) Dt)=.lst [.int (c 0),.int (c 1),.int (c 2),.int (c 3),.int (c 4),.int (c 5)]:=congrArg AV.lst (qco (qae c) 6);have hc:∀t∈Ae 6,(qae c)[t]?=ER (.int (c t)):=λt ht=>qds (Ag (Au.mp ht) (by decide))
  have hz6:(qae c).length<=Ai:=by exact (by decide:7<=Ai)
  have h5:(Ae 6).length<=2 ^ 20:=by decide
  have hx1:(AIt.enum (.lst [.int (c 0),.int (c 1),.int (c 2),.int (c 3),.int (c 4),.int (c 5)]) [.int (c 0),.int (c 1),.int (c 2),.int (c 3),.int (c 4),.int (c 5)]).items=(Ae 6).map (λt:Nat=>AV.tup [.int t,.int (c t)]):=rfl;have hx2:(AIt.enum (.lst ((Ae 6).map λt=>AV.int (qd9 c t))) ((Ae 6).map λt=>AV.int (qd9 c t))).items=(Ae 6).map (λt:Nat=>AV.tup [.int t,.int (qd9 c t)]):=rfl;exact .(Exs.cons .(Iar (i:=1) Uu .(ItE.call .(Iah 2 F.b_enumerate) .(Kept.type) (Evs.cons .(Iag .(Iav .(Ia5 0) EvO.none (Iau .(Ia1)) EvO.none .(Lv.fz) (by simp) (by assumption)) hs) .(Evs.nil)) .(CallIt.enum (Lv.fz))) (CompIn.of [Dt,Dt,Dt,Dt] (by kernel_rfl) (by kernel_rfl)) .(CompC.map Uu (Ae 6) ((λt:Nat=>AV.tup [.int t,.int (c t)])) ((λt=>AV.int (qd9 c t))) _ (λx hx=>.(As.tuple .(AsL.cons .(Ia3 1) .(AsL.cons .(Ia3 2) .(AsL.nil))))) (λx hx=>.(Ia2 .(Ia0 2) .(Ev.call .(Iah 3 F.b_max) .(Kept.builtin) (Evs.cons .(Ia0 1) .((Evs.cons .(Ia1) .(Evs.nil)))) EvK.nil (Iby)) (Iak (qr4 hx).1 (qr4 hx).2))) .(λ_=>Ia8 (Weak.set Uu) Uu) (ht:=by exact (λ_=>⟨_,_,_,rfl⟩))) .(qa9 (λ_=>Uu) _)) .(Exs.ret .(Iai .(Iao .(ItE.call .(Iah 2 F.b_enumerate) .(Kept.type) (Evs.cons .(Ia0 1) .(Evs.nil)) .(CallIt.enum (Lv.fz))) (CompIn.of [Dt,Dt,Dt,Dt,ER 0] (by kernel_rfl) (by kernel_rfl)) .(CompC.map Uu (Ae 6) ((λt:Nat=>AV.tup [.int t,.int (qd9 c t)])) (qe6 c) _ (λx hx=>.(As.tuple .(AsL.cons .(Ia3 1) .(AsL.cons .(Ia3 2) .(AsL.nil))))) (λx hx=>.(Ev.tuple (Evs.cons .(Ia2 .(Iaa .(Ia5 4) .(Ia0 1) .(Lv.fz) (by exact qbi rfl (hc x hx)) (by assumption)) .(Ev.call .(Iah 3 F.b_max) .(Kept.builtin) (Evs.cons .(Ia0 1) .((Evs.cons .(Ia1) .(Evs.nil)))) EvK.nil (Iby)) (Iat (qr4 hx).1)) .((Evs.cons .(Ia2 .(Ia2 .(Ia0 2) .(Ia1) .(Iat (by decide))) .(Ia1) .(Op2.sub)) .((Evs.cons .(Ia2 .(Ia2 .(Ia2 .(Ia0 2) .(Ia1) .(Iak (by decide) (by decide))) .(Ia1) .(Iat (by decide))) .(Ia1) .(Op2.add)) .(Evs.nil)))))))) .(λ_=>Ia8 (Weak.set Uu) Uu) (ht:=by exact (λ_=>⟨_,_,_,rfl⟩)))))))
theorem qj8 (F:Fac W):Calls W Y (k+1) fr σ (.glob (.ref A16)) [.lst (qae c)] [] [] (.lst (qab c)) σ:=
  Iaq (F.f16 _ rfl) (λcd env _=>(qlf F).f) rfl rfl
theorem qas {l:List α}{x d:α}(h:l[i]?=ER x):l.getD i d=x:=by rw[BF,h];rfl
noncomputable abbrev qaw (c:Nat->Int) (t:Nat):Nat:=(qoo c t).toNat
theorem qev {t:Nat}(h:1<=t):qoo c t=(qaw c t:Nat)/\qaw c t<t:=by
  have e:tn t=(t:Nat):=by unfold tn;exact Fo (EK.mpr h)
  refine qa4 (qpp (x:=c t) (n:=t) h) ?_;intro m hm hl;have h1:qoo c t=m:=by unfold qoo;rw[e];exact hm
  unfold qaw;rw[h1];exact ⟨rfl,hl⟩
theorem qe5 {t:Nat}(h:t<6):(qab c)[t]?=ER (qe6 c t):=by
  rw[Ao,Dy h];rfl
end
section
noncomputable abbrev qm1 (t:Nat):Hv:=Bh "e"++Bh (toString ((t:Nat):Int))
theorem qr6:∀t:Fin 8,Bz (qm1 t)=Hq/\(Bh "e").length+(Bh (toString (((t:Nat):Nat):Int))).length<=100:=by decide +kernel
noncomputable def ta18:PSigma (λl=>(qbm (nth bd18.1 4))=l):=⟨_,by conv=>lhs;whnf⟩
noncomputable def bo18:PSigma (λl=>(qb4 (nth bd18.1 4))=l):=⟨_,by conv=>lhs;whnf⟩
noncomputable abbrev qiv (odd:Bool):List Hv:=if odd then ["g","by","p"] else ["g","p"]
noncomputable abbrev qjt (odd:Bool) (d e:Int):List AV:=if odd then [.int d,.str "hand",.int e] else [.int d,.int e]
theorem quw (odd:Bool){d e:Int}(h1:(qiv odd)[i]?=ER x)(h2:(qjt odd d e)[i]?=ER v):qbr (qiv odd) (qjt odd d e) x=ER v:=by
  cases odd with
  | true=>
    match i,h1,h2 with
    | 0,h1,h2=>injection h1 with h1;injection h2 with h2;subst h1 h2;kernel_rfl
    | 1,h1,h2=>injection h1 with h1;injection h2 with h2;subst h1 h2;kernel_rfl
    | 2,h1,h2=>injection h1 with h1;injection h2 with h2;subst h1 h2;kernel_rfl
    | n+3,h1,h2=>simp[qiv] at h1
  | false=>
    match i,h1,h2 with
    | 0,h1,h2=>injection h1 with h1;injection h2 with h2;subst h1 h2;kernel_rfl
    | 1,h1,h2=>injection h1 with h1;injection h2 with h2;subst h1 h2;kernel_rfl
    | n+2,h1,h2=>simp[qiv] at h1
noncomputable abbrev at7:List Hv:=["place","makeelement","append","inner","attrib","tag"]
noncomputable abbrev qjs (F:Ht) (n t:Nat):AObj:=.elem at7 (.int (t:Nat)::qb6 F (.loc (n+3)) (.loc (n+1)) (.str (qm1 t)))
noncomputable abbrev qw1 (F:Ht) (odd:Bool) (n t:Nat) (d e:Int):List AObj:=[.dstr ["g","p"] [.int d,.int e],.dstr (qiv odd) (qjt odd d e),qjs F n t,.lst [],.dstr (qiv odd) (qjt odd d e)]
noncomputable def qoq (c:Nat->Int) (rl tl bl b1 l1:Nat):List (Option AV):=[ER (.lst (qae c)),ER (.lst (qab c)),ER (.loc rl),ER (.loc tl),ER (.bool Hq),ER (.loc bl),ER (.loc b1),ER (.loc l1),Dt,Dt,Dt,Dt,Dt,Dt,Dt,Dt,Dt,Dt,Dt,Dt]
section
variable (F:Fac W) {rl tl bl b1 l1 ab ib t:Nat} {R avs:List AV} {as:List Hv}
include F in
theorem qpx (odd:Bool)(ht:t<6)(hodd:((c t).fmod 2==1)=odd)(hR:σ[rl]?=ER (.lst R))(hT:σ[tl]?=ER (.dstr ["g","by"] [.int 99,.str "hand"]))(hab:(t=0/\ab=bl)\/(0<t/\R[qaw c t]?=ER (.loc ab)))(hp:σ[ab]?=ER (.elem as avs))(hm:(as.zip avs).lookup ("makeelement":Hv)=ER (.glob (.ref A17)))(ha:(as.zip avs).lookup ("append":Hv)=ER (.bound "list.append" (.loc ib)))(hin:(as.zip avs).lookup ("inner":Hv)=ER (.loc ib))(hi:σ[ib]?=ER (.lst ch))(hYi:Y ib)(hYr:Y rl)(hYn:∀m,σ.length<=m->Y m)(hri:rl≠ib)(hai:ab≠ib)(hzc:ch.length<=1000)(hzR:R.length<=1000):
    Exs ⟨W,Y,nm18.1,cd⟩ (k+2) fr (((qoq c rl tl bl b1 l1).set 8 (ER (.int (t:Nat)))).set 9 (ER (qe6 c t))) σ bo18.1 .next (qoq c rl tl bl b1 l1) ((σ.set ib (.lst (ch++[.loc (σ.length+2)]))).set rl (.lst (R++[.loc (σ.length+2)]))++qw1 A17 odd σ.length t (dI c t) (eI c t)):=by
  generalize hn:σ.length=n at *;generalize hS:σ.set ib (.lst (ch++[.loc (n+2)]))=S;have hSl:S.length=n:=by rw[<- hS,Bv,hn]
  obtain ⟨htok,htz⟩:=qr6 ⟨t,by lia⟩;simp only[] at htok htz;have htz':(Bh "e").length+(Bh (toString ((t:Nat):Int))).length<=Ai:=Af htz (by decide);have hts:((t:Nat):Int).natAbs<4611686018427387904:=by omega
  have hz6:(qae c).length<=Ai:=by exact (by decide:7<=Ai)
  have hct:=qds (c:=c) (show t<7 by lia);have hzR':R.length<=Ai:=by rw[AB];lia
  have hkS:=(F.f11t .none .none .none [] [] (by decide) rfl rfl nofun (AJ _)).kept;have hkI:=(F.f10 .none).kept;have hnd:(["g","p"]:List Hv).Nodup:=by decide
  have hnx:∀x∈(["g","p"]:List Hv),x∉(["parent","tag","attrib"]:List Hv):=by decide
  obtain ⟨A0,hA0⟩:∃A0,A0=qb6 A17 (.loc (n+3)) (.loc (n+1)) (.str (qm1 t)):=⟨_,rfl⟩
  obtain ⟨X,hX⟩:∃X,X=AObj.dstr ["g","p"] [.int (dI c t),.int (eI c t)]:=⟨_,rfl⟩
  obtain ⟨D,hD⟩:∃D,D=AObj.dstr (qiv odd) (qjt odd (dI c t) (eI c t)):=⟨_,rfl⟩
  have at1:(atE.zip A0).lookup ("tag":Hv)=ER (.str (qm1 t)):=by rw[hA0];rfl
  have at2:(atE.zip A0).lookup ("attrib":Hv)=ER (.loc (n+1)):=by rw[hA0];rfl
  have hfive:qw1 A17 odd n t (dI c t) (eI c t)=[X,D,.elem at7 (.int (t:Nat)::A0),.lst [],D]:=by rw[hX,hD,hA0]
  rw[hfive];have hsubT:((c t).fmod 2==1)=Hq->Calls W Y (k+2) fr σ (.glob (.ref A11)) [.loc ab,.str (qm1 t),.loc tl] ["g","p"] [.int (dI c t),.int (eI c t)] (.loc (n+2)) (S++[X,D,.elem atE A0,.lst []]):=λh=>by
    obtain rfl:=hodd.symm.trans h;have:=qte F (Y:=Y) (k:=k) (fr:=fr) (σ:=σ) (tag:=.str (qm1 t)) (ks':=["g","p"]) (vs':=[.int (dI c t),.int (eI c t)]) hp hm ha hi hYi hT rfl rfl (by exact (by decide:4<=Ai)) rfl (szl hzc) hnd rfl hnx (mk:=["g","by","p"]) (mv:=[.int (dI c t),.str "hand",.int (eI c t)]) (by kernel_rfl);rw[hn,hS] at this;rw[hX,hD,hA0];exact this
  have hsubF:((c t).fmod 2==1)=Hr->Calls W Y (k+2) fr σ (.glob (.ref A11)) [.loc ab,.str (qm1 t)] ["g","p"] [.int (dI c t),.int (eI c t)] (.loc (n+2)) (S++[X,D,.elem atE A0,.lst []]):=λh=>by
    obtain rfl:=hodd.symm.trans h;have:=qtf F (Y:=Y) (k:=k) (fr:=fr) (σ:=σ) (tag:=.str (qm1 t)) (ks':=["g","p"]) (vs':=[.int (dI c t),.int (eI c t)]) hp hm ha hi hYi rfl (by decide) rfl (szl hzc) hnd rfl hnx (mk:=["g","p"]) (mv:=[.int (dI c t),.int (eI c t)]) (by kernel_rfl);rw[hn,hS] at this;rw[hX,hD,hA0];exact this
  have dT:((c t).fmod 2==1)=Hq->S++[X,D,.elem atE A0,.lst []]++[.dstr ["g","by","p"] [.int (dI c t),.str "hand",.int (eI c t)]]=S++[X,D,.elem atE A0,.lst [],D]:=λh=>by
    obtain rfl:=hodd.symm.trans h;rw[hD,AF];rfl
  have dF:((c t).fmod 2==1)=Hr->S++[X,D,.elem atE A0,.lst []]++[.dstr ["g","p"] [.int (dI c t),.int (eI c t)]]=S++[X,D,.elem atE A0,.lst [],D]:=λh=>by
    obtain rfl:=hodd.symm.trans h;rw[hD,AF];rfl
  have vl:AV.loc (S++[X,D,.elem atE A0,.lst []]).length=.loc (n+4):=by rw[An,hSl];rfl
  have hSab:S[ab]?=ER (.elem as avs):=by rw[<- hS,qav (B5 hai)];exact hp
  have hSib:S[ib]?=ER (.lst (ch++[.loc (n+2)])):=by rw[<- hS];exact qbv hi
  have hSrl:S[rl]?=ER (.lst R):=by rw[<- hS,qav (B5 hri)];exact hR
  have gn:∀τ j,(S++τ)[n+j]?=τ[j]?:=λτ j=>qal (by rw[hSl])
  have sn:∀τ j x,(S++τ).set (n+j) x=S++τ.set j x:=λτ j x=>qcw (by rw[hSl])
  have hlast:∃j,Di (-1) (ch++[AV.loc (n+2)]).length=ER j/\(ch++[AV.loc (n+2)])[j]?=ER (.loc (n+2)):=quh (j:=ch.length) (by simp) (by simp;lia);have hzl:(ch++[AV.loc (n+2)]).length<=Ai:=by rw[An];exact szl (E0 hzc)
  have hd2:Op2 W Y (k+2) fr (S++[X,D,.elem atE A0,.lst [],D]) (Cz .Eq) (.loc (n+1)) (.loc (n+4)) (.bool Hq) (S++[X,D,.elem atE A0,.lst [],D]):=by
    refine Ibv (ks:=qiv odd) (ks':=qiv odd) (vs:=qjt odd (dI c t) (eI c t)) (vs':=qjt odd (dI c t) (eI c t)) ((gn _ 1).trans (congrArg ER hD)) ((gn _ 4).trans (congrArg ER hD)) rfl (by cases odd <;> rfl) (λv hv=>?_) (λi x v h1 h2=>quw odd h1 h2);cases odd <;> simp[qjt] at hv <;> rcases hv with rfl | rfl | rfl <;> first | exact ⟨rfl,AJ _⟩ | exact ⟨by decide +kernel,AJ _⟩
  have g2:(S++[X,D,.elem atE A0,.lst [],D])[n+2]?=ER (.elem atE A0):=gn _ 2;have hi2:Calls W Y (k+2) fr (S++[X,D,.elem atE A0,.lst [],D]) (.glob (.ref A10)) [.loc (n+2)] [] [] (.bool Hq) (S++[X,D,.elem atE A0,.lst [],D]):=qui F (k:=k+1) λk fr Y=>Ibq g2 at1 rfl qfk
  have hDt:D1 64 (.str (qm1 t)):=D1.str htok;have hYn2:=hYn (n+2) (A5 _ _);have e2:(S++[X,D,.elem atE A0,.lst [],D]).set (n+2) (.elem at7 (.int (t:Nat)::A0))=S++[X,D,.elem at7 (.int (t:Nat)::A0),.lst [],D]:=sn _ 2 _;have hgr:(S++[X,D,.elem at7 (.int (t:Nat)::A0),.lst [],D])[rl]?=ER (.lst R):=qa6 hSrl;have hap:=Ian (Calls.append (W:=W) (Y:=Y) (k:=k+2) (fr:=fr) (v:=.loc (n+2)) hgr hYr rfl hzR') rfl (set_app (qeb hSrl));have hpos:decide ((0:Int)<((t:Nat):Int))=Hq->0<t:=λh=>Fq.mp (of_decide_eq_true h)
  have hpar:=λh=>(qev (c:=c) (t:=t) (hpos h)).1
  have hRp:=λh=>(hab.resolve_left λq=>absurd (hpos h) (q.1 ▸ C0 0)).2
  have hbl:decide ((0:Int)<((t:Nat):Int))=Hr->AV.loc bl=.loc ab:=λh=>hab.elim (λq=>congrArg AV.loc q.2.symm) λq=>absurd (Fq.mpr q.1) (of_decide_eq_false h)
  refine Exs.post (m2:=(((((((qoq c rl tl bl b1 l1).set 8 (ER (.int (t:Nat)))).set 9 (ER (qe6 c t))).set 10 (ER (.loc ab))).set 11 (ER (.str (qm1 t)))).set 12 (ER (.loc (n+2)))).set 13 (ER (.loc (n+4)))).set 4 (ER (.bool Hq))) ?_ (by with_unfolding_all exact Ia9 1048320);show Exs _ _ _ _ _ (_::_) _ _ _;exact .(Exs.cons .(Ic3 (i:=10) (j:=11) .(Ev.tuple (Evs.cons .(Ics .(Tr.cmp .(Ia0 8) .(Ia1) .(Iec)) (λhc=>.(Iaa .(Ia0 2) .(Iae .(Ia0 9) .(Ia1) .(⟨_,rfl,rfl⟩)) .(Lv.loc (by assumption)) (by exact qbi (hpar hc) (hRp hc)) (by exact hzR'))) (λhc=>.(Iag .(Ia0 5) ((hbl hc))))) .((Evs.cons .(Ia2 .(Ia7) .(Ev.call .(Iah 17 F.b_str) .(Kept.type) (Evs.cons .(Ia0 8) .(Evs.nil)) EvK.nil (Idj hts)) (Ie2 htz')) .(Evs.nil))))) Uu Uu (by decide) Uu Uu) .(Exs.cons .(Ia4 .(Ics .(Tr.cmp .(Ia2 .(Iaa .(Ia0 0) .(Ia0 8) .(Lv.fz) (by exact qbi rfl hct) (by exact hz6)) .(Ia1) .(Iat (by decide))) .(Ia1) .(Ibe)) (λhc=>.(Ev.call .(Iad 18 F.g_SubElement) (hkS) (Evs.cons .(Ia0 10) .((Evs.cons .(Ia0 11) .((Evs.cons .(Ia0 3) .(Evs.nil)))))) (EvK.cons .(Iae .(Ia0 9) .(Ia1) .(⟨_,rfl,rfl⟩)) .((EvK.cons .(Iae .(Ia0 9) .(Ia1) .(⟨_,rfl,rfl⟩)) .(EvK.nil)))) ((hsubT hc)))) (λhc=>.(Ev.call .(Iad 18 F.g_SubElement) (hkS) (Evs.cons .(Ia0 10) .((Evs.cons .(Ia0 11) .(Evs.nil)))) (EvK.cons .(Iae .(Ia0 9) .(Ia1) .(⟨_,rfl,rfl⟩)) .((EvK.cons .(Iae .(Ia0 9) .(Ia1) .(⟨_,rfl,rfl⟩)) .(EvK.nil)))) ((hsubF hc))))) .(Ia3 12)) .(Exs.cons .(Ia4 .(Ics .(Tr.cmp .(Ia2 .(Iaa .(Ia0 0) .(Ia0 8) .(Lv.fz) (by exact qbi rfl hct) (by exact hz6)) .(Ia1) .(Iat (by decide))) .(Ia1) .(Ibe)) (λhc=>.(Ic4 .(Ibn ["g","by","p"] (by with_unfolding_all exact EvP.cons .(Ia7) .(Iae .(Ia0 9) .(Ia1) .(⟨_,rfl,rfl⟩)) (by with_unfolding_all exact EvP.cons .(Ia7) .(Ia7) (by with_unfolding_all exact EvP.cons .(Ia7) .(Iae .(Ia0 9) .(Ia1) .(⟨_,rfl,rfl⟩)) (by with_unfolding_all exact EvP.nil)))) Uu (by decide)) (dT hc) (vl))) (λhc=>.(Ic4 .(Ibn ["g","p"] (by with_unfolding_all exact EvP.cons .(Ia7) .(Iae .(Ia0 9) .(Ia1) .(⟨_,rfl,rfl⟩)) (by with_unfolding_all exact EvP.cons .(Ia7) .(Iae .(Ia0 9) .(Ia1) .(⟨_,rfl,rfl⟩)) (by with_unfolding_all exact EvP.nil))) Uu (by decide)) (dF hc) (vl)))) .(Ia3 13)) .(Exs.cons .(Ia4 .(Iag .(Ic6 .(EvAnd.cons .(Ia0 4) .(EvAnd.cons .(Ev.cmp .(Iaa .(Iay .(Ia0 10) (by exact qa6 hSab) (by exact hin) qe3) .(Icq .(Ia1)) (by exact Lv.loc (qa6 hSib)) (by exact hlast) (by exact hzl)) .(Ia0 12) .(Idd)) .(EvAnd.cons .(Ev.cmp .(Iay .(Ia0 12) (by exact g2) (by exact at1) qfk) .(Ia0 11) (Ids (Dv.of hDt) (Dv.of hDt) (by simp))) .(EvAnd.cons .(Ev.cmp .(Iay .(Ia0 12) (by exact g2) (by exact at2) qc2) .(Ia0 13) (hd2)) .(EvAnd.one .(Ev.cmp .(Ev.call .(Iad 19 F.g_iselement) (hkI) (Evs.cons .(Ia0 12) .(Evs.nil)) EvK.nil (hi2)) .(Ibh) .(Ib5)))))))) ((rfl:AV.bool (Hq==Hq)=.bool Hq))) .(Ia3 4)) .(Exs.cons .(Ia4 .(Ia0 8) .(Ibr .(Ic9 .(Ia0 12) (by exact g2) qkb (by exact hYn2) (hp:=Uu)) e2)) .(Exs.cons .(Ex.expr .(Iaj .(Ia0 2) ((by exact Meth.append (Lv.loc hgr))) .(Kept.builtin) (Evs.cons .(Ia0 12) .(Evs.nil)) (by with_unfolding_all exact (hap)))) .(Exs.nil)))))))
end
end
section
def Ext (b:Nat) (σ T:List AObj):Prop:=σ.length<=T.length/\∀i,i<σ.length->i≠b->T[i]?=σ[i]?
theorem Ext.trans {T U:List AObj}(h:Ext b σ T)(h':Ext b T U):Ext b σ U:=⟨Af h.1 h'.1,λi hi hb=>(h'.2 i (Ag hi h.1) hb).trans (h.2 i hi hb)⟩
theorem Ext.get {T:List AObj}(h:Ext b σ T){x:AObj}(hx:σ[i]?=ER x)(hb:i≠b):T[i]?=ER x:=(h.2 i (qeb hx) hb).trans hx
theorem Ext.app:Ext b σ (σ++τ):=⟨by simp,λi hi _=>BI hi⟩
theorem Ext.set {x:AObj}:Ext b σ (σ.set b x):=⟨by simp,λi hi hb=>qav (B5 hb)⟩
section
variable (F:Fac W) {p ip:Nat} {x:AV}
include F in
theorem qqh (hp:σ[p]?=ER (.elem atE (qb6 A17 (.loc ip) x y)))(hi:σ[ip]?=ER (.lst ch))(hYi:Y ip)(hz2:ch.length<=1000):∃T,(∀fr,Calls W Y (k+2) fr σ (.glob (.ref A11)) [.loc p,.str "note"] [] [] (.loc (σ.length+2)) T)/\Ext ip σ T/\T.length=σ.length+4/\T[ip]?=ER (.lst (ch++[.loc (σ.length+2)]))/\
    T[σ.length+1]?=ER (.dstr [] [])/\T[σ.length+2]?=ER (.elem atE (qb6 A17 (.loc (σ.length+3)) (.loc (σ.length+1)) (.str "note"))):=by
  refine ⟨_,λfr=>qtf F (Y:=Y) (k:=k) (fr:=fr) (σ:=σ) (tag:=.str "note") (ks':=[]) (vs':=[]) hp rfl rfl hi hYi rfl (by decide) rfl (by rw[AB];lia) .nil rfl (λ_ h=>absurd h BN) (mk:=[]) (mv:=[]) rfl,Ext.set.trans Ext.app,by simp,qa6 (qbv hi),?_,?_⟩
  . rw[qal (j:=1) (by simp)];rfl
  . rw[qal (j:=2) (by simp)];rfl
include F in
theorem qts {t:Nat}(ht:σ[t]?=ER (.dstr ["g","by"] [.int 99,.str "hand"]))(hp:σ[p]?=ER (.elem atE (qb6 A17 (.loc ip) x y)))(hi:σ[ip]?=ER (.lst ch))(hYi:Y ip)(hz2:ch.length<=1000):∃T,(∀fr,Calls W Y (k+2) fr σ (.glob (.ref A11)) [.loc p,.str "note",.loc t] [] [] (.loc (σ.length+2)) T)/\Ext ip σ T/\T.length=σ.length+4/\T[ip]?=ER (.lst (ch++[.loc (σ.length+2)]))/\
    T[σ.length+1]?=ER (.dstr ["g","by"] [.int 99,.str "hand"])/\T[σ.length+2]?=ER (.elem atE (qb6 A17 (.loc (σ.length+3)) (.loc (σ.length+1)) (.str "note"))):=by
  refine ⟨_,λfr=>qte F (Y:=Y) (k:=k) (fr:=fr) (σ:=σ) (tag:=.str "note") (ks':=[]) (vs':=[]) hp rfl rfl hi hYi ht rfl rfl (by exact (by decide:2<=Ai)) rfl (by rw[AB];lia) .nil rfl (λ_ h=>absurd h BN) (mk:=["g","by"]) (mv:=[.int 99,.str "hand"]) (by kernel_rfl),Ext.set.trans Ext.app,by simp,qa6 (qbv hi),?_,?_⟩
  . rw[qal (j:=1) (by simp)];rfl
  . rw[qal (j:=2) (by simp)];rfl
end
noncomputable def ta185:PSigma (λl=>(qbm (nth bd18.1 5))=l):=⟨_,by conv=>lhs;whnf⟩
noncomputable def bo185:PSigma (λl=>(qb4 (nth bd18.1 5))=l):=⟨_,by conv=>lhs;whnf⟩
section
variable (F:Fac W) {rl tl bl b1 l1 e a:Nat} {avs:List AV}
include F in
theorem qn8 (he:σ[e]?=ER (.elem atE avs))(hat:(atE.zip avs).lookup ("attrib":Hv)=ER (.loc a))(ha:σ[a]?=ER (.dstr ks vs))(hd:σ[d]?=ER (.dstr ks vs))(hl:ks.length=vs.length)(hD:∀v∈vs,isD v=Hq/\(toP v).depth<=64)(hsub:∀(i:Nat) (x:Hv) (v:AV),ks[i]?=ER x->vs[i]?=ER v->qbr ks vs x=ER v)(hY:Y a)(hz:ks.length<=100):
    Exs ⟨W,Y,nm18.1,cd⟩ (k+2) fr (((qoq c rl tl bl b1 l1).set 14 (ER (.loc e))).set 13 (ER (.loc d))) σ bo185.1 .next (qoq c rl tl bl b1 l1) (σ.set a (.dstr (qfq ks vs "by" (.str "none")).1 (qfq ks vs "by" (.str "none")).2)):=by
  have hzz:ks.length<=Ai:=by rw[AB];lia
  have heq:=Ibv (W:=W) (Y:=Y) (k:=k+2) (fr:=fr) ha hd rfl hl hD hsub;refine Exs.post (m2:=(((qoq c rl tl bl b1 l1).set 14 (ER (.loc e))).set 13 (ER (.loc d))).set 4 (ER (.bool Hq))) ?_ (by with_unfolding_all exact Ia9 1048320);show Exs _ _ _ _ _ (_::_) _ _ _;exact .(Exs.cons .(Ia4 .(Ic6 .(EvAnd.cons .(Ia0 4) .(EvAnd.one .(Ev.cmp .(Iay .(Ia0 14) (by exact he) (by exact hat) qc2) .(Ia0 13) (heq))))) .(Ia3 4)) .(Exs.cons .(Ia4 .(Ia7) .(Ieg .(Iay .(Ia0 14) (by exact he) (by exact hat) qc2) .(Ia7) ha hY rfl hzz)) .(Exs.nil)))
end
end
section
noncomputable abbrev tabO:AObj:=.dstr ["g","by"] [.int 99,.str "hand"]
noncomputable abbrev qor (F:Ht) (n:Nat):List AObj:=[.lst [],tabO,.dstr [] [],.elem atE (qb6 F (.loc (n+4)) (.loc (n+2)) (.str "book")),.lst [],.elem ["attrib"] [.loc (n+1)],.elem ["tag"] [.str "lone"]]
noncomputable def abL (c:Nat->Int) (n:Nat):Nat->Nat
  | 0=>n+3
  | t+1=>(n+7+5*(qaw c (t+1))+2)
noncomputable def qkl (c:Nat->Int) (t:Nat):Bool:=(c t).fmod 2==1
theorem qju (h:j∈[1,3,5,6]):0<j/\j<7/\j≠4:=(by decide:∀j∈[1,3,5,6],0<j/\j<7/\j≠4) j h
noncomputable def qgd (c:Nat->Int) (n t s:Nat):List AV:=(qec (qaw c) t s).map λu=>.loc (n+7+5*u+2)
theorem qs7 (par:Nat->Nat)(t s:Nat):(qec par t s).length<=t:=Af (BQ _ _) (Bn AW)
theorem qpf {t s:Nat}:(qgd c n t s).length<=t:=by rw[qgd,Ah];exact qs7 _ t s
theorem qi8 (par:Nat->Nat)(t s:Nat):qec par (t+1) s=qec par t s++if decide (0<t)&&par t==s then [t] else []:=by
  rw[qec,DN,List.filter_append];cases h:(decide (0<t)&&par t==s) <;> simp[h,qec]
theorem qs6 {t:Nat}:qgd c n (t+1) t=[]:=by
  have e:qec (qaw c) (t+1) t=[]:=List.eq_nil_iff_forall_not_mem.mpr λk hk=>by
    obtain ⟨h1,h2,h3⟩:=kidU_mem.mp hk;have:=(qev (c:=c) (t:=k) h2).2;omega
  rw[qgd,e];rfl
theorem qs5 {t s:Nat}(h:t=0\/qaw c t≠s):qgd c n (t+1) s=qgd c n t s:=by
  have e:(decide (0<t)&&qaw c t==s)=Hr:=by
    rcases h with rfl | h
    . rfl
    . rw[beq_false_of_ne h,D7]
  rw[qgd,qi8,e,if_neg AL,AO];rfl
theorem qpd {t:Nat}(h:0<t):qgd c n (t+1) (qaw c t)=qgd c n t (qaw c t)++[.loc (n+7+5*t+2)]:=by
  have e:(decide (0<t)&&qaw c t==qaw c t)=Hq:=by rw[decide_eq_true h,beq_self_eq_true];rfl
  rw[qgd,qi8,e,if_pos rfl,AT];rfl
structure DocI (W:Wd) (c:Nat->Int) (n t:Nat) (z0 σ:List AObj):Prop where
  len:σ.length=n+7+5*t
  row:σ[n]?=ER (.lst ((Ae t).map λs=>.loc (n+7+5*s+2)))
  fix:∀{j:Nat} {x:AObj},j∈[1,3,5,6]->(qor A17 n)[j]?=ER x->σ[n+j]?=ER x
  bookI:σ[n+4]?=ER (.lst (if t=0 then [] else [.loc (n+7+5*0+2)]))
  els:∀s,s<t->σ[n+7+5*s+2]?=ER (qjs A17 (n+7+5*s) s)
  inn:∀s,s<t->σ[n+7+5*s+2+1]?=ER (.lst (qgd c n t s))
  att:∀s,s<t->σ[n+7+5*s+1]?=ER (.dstr (qiv (qkl c s)) (qjt (qkl c s) (dI c s) (eI c s)))
  old:∀i,i<n->σ[i]?=z0[i]?
section
variable (F:Fac W) {t:Nat} {z0:List AObj}
theorem Idi {S:List AObj}(D:DocI W c n t z0 σ){ib:Nat}{R:List AV}(hib:(t=0/\ib=n+4)\/(0<t/\ib=n+7+5*(qaw c t)+2+1))(hch:0<t->ch=qgd c n t (qaw c t))(hch0:t=0->ch=[])(hR:R=(Ae t).map λs=>.loc (n+7+5*s+2))(h5:τ.length=5)(t1:τ[1]?=ER (.dstr (qiv (qkl c t)) (qjt (qkl c t) (dI c t) (eI c t))))(t2:τ[2]?=ER (qjs A17 (n+7+5*t) t))(t3:τ[3]?=ER (.lst []))(hnb:∀s j,j<3->n+7+5*s+j≠ib)(hn4:∀j,j<7->j≠4->n+j≠ib)(hn0:∀s j,n+7+5*s+j≠n)(hle:n<=ib)(hl:S.length=n+7+5*t)(row:S[n]?=ER (.lst (R++[.loc (n+7+5*t+2)])))(own:S[ib]?=ER (.lst (ch++[.loc (n+7+5*t+2)])))(rest:∀i,i≠n->i≠ib->S[i]?=σ[i]?):DocI W c n (t+1) z0 (S++τ):=by
  have keep:∀i x,i≠n->i≠ib->σ[i]?=ER x->(S++τ)[i]?=ER x:=λi x h1 h2 hx=>qa6 ((rest i h1 h2).trans hx)
  have new:∀j,(S++τ)[n+7+5*t+j]?=τ[j]?:=λj=>qal (by rw[hl])
  refine ⟨by rw[An,hl,h5];rfl,by rw[qa6 row,DN,AT,hR];rfl,λ{j x} hj hx=>?_,?_,λs hs=>?_,λs hs=>?_,λs hs=>?_,λi hi'=>?_⟩
  . have h:=qju hj;exact keep _ _ (CF (CO h.1)) (hn4 j h.2.1 h.2.2) (D.fix hj hx)
  . rcases hib with h | h
    . rw[<- h.2,qa6 own,hch0 h.1,h.1];rfl
    . rw[keep _ _ (CF (CO (by decide:0<4))) (λe=>by have:=h.2;lia) D.bookI,if_neg (CF h.1)];rfl
  . rcases C3 (AM hs) with hs | rfl
    . exact keep _ _ (hn0 s 2) (hnb s 2 (by decide)) (D.els s hs)
    . exact (new 2).trans t2
  . rcases C3 (AM hs) with hs | rfl
    . by_cases hsi:n+7+5*s+2+1=ib
      . have h0:0<t:=Cv (AJ s) hs;obtain rfl:s=qaw c t:=by rcases hib with h | h <;> lia
        rw[hsi,qpd h0,<- hch h0];exact qa6 own
      . rw[qs5 (by rcases hib with h | h <;> lia)];exact keep _ _ (hn0 s 3) hsi (D.inn s hs)
    . rw[qs6];exact (new 3).trans t3
  . rcases C3 (AM hs) with hs | rfl
    . exact keep _ _ (hn0 s 1) (hnb s 1 (by decide)) (D.att s hs)
    . exact (new 1).trans t1
  . rw[<- D.old i hi',BI (by rw[hl];exact Ag hi' (Af (A5 n 7) (A5 _ _)))];exact rest i (BC hi') (BC (Ag hi' hle))
theorem DocI.step (D:DocI W c n t z0 σ){ib:Nat}{R:List AV}(hi:σ[ib]?=ER (.lst ch))(hib:(t=0/\ib=n+4)\/(0<t/\ib=n+7+5*(qaw c t)+2+1))(hch:0<t->ch=qgd c n t (qaw c t))(hch0:t=0->ch=[])(hR:R=(Ae t).map λs=>.loc (n+7+5*s+2))(h5:τ.length=5)(t1:τ[1]?=ER (.dstr (qiv (qkl c t)) (qjt (qkl c t) (dI c t) (eI c t))))(t2:τ[2]?=ER (qjs A17 (n+7+5*t) t))(t3:τ[3]?=ER (.lst [])):
    DocI W c n (t+1) z0 ((σ.set ib (.lst (ch++[.loc (n+7+5*t+2)]))).set n (.lst (R++[.loc (n+7+5*t+2)]))++τ):=by
  have hnb:∀s j,j<3->n+7+5*s+j≠ib:=λs j hj e=>by rcases hib with ⟨_,h⟩ | ⟨_,h⟩ <;> lia
  have hn4:∀j,j<7->j≠4->n+j≠ib:=λj h1 h2 e=>hib.elim (λh=>h2 (Ef (e.trans h.2))) λh=>by have:=h.2;lia
  have hn0:∀s j,n+7+5*s+j≠n:=λs j=>by simp +arith
  have hibn:ib≠n:=λe=>hn4 0 (by decide) (by decide) e.symm
  have hle:n<=ib:=by rcases hib with ⟨_,h⟩ | ⟨_,h⟩ <;> lia
  have hl:((σ.set ib (.lst (ch++[.loc (n+7+5*t+2)]))).set n (.lst (R++[.loc (n+7+5*t+2)]))).length=n+7+5*t:=by rw[Bv,Bv];exact D.len
  have row:((σ.set ib (.lst (ch++[.loc (n+7+5*t+2)]))).set n (.lst (R++[.loc (n+7+5*t+2)])))[n]?=ER (.lst (R++[.loc (n+7+5*t+2)])):=qbv ((qav hibn).trans D.row);have own:((σ.set ib (.lst (ch++[.loc (n+7+5*t+2)]))).set n (.lst (R++[.loc (n+7+5*t+2)])))[ib]?=ER (.lst (ch++[.loc (n+7+5*t+2)])):=(qav hibn.symm).trans (qbv hi);have rest:∀i,i≠n->i≠ib->((σ.set ib (.lst (ch++[.loc (n+7+5*t+2)]))).set n (.lst (R++[.loc (n+7+5*t+2)])))[i]?=σ[i]?:=λi h1 h2=>(qav (B5 h1)).trans (qav (B5 h2))
  generalize (σ.set ib (.lst (ch++[.loc (n+7+5*t+2)]))).set n (.lst (R++[.loc (n+7+5*t+2)]))=S at hl row own rest;exact Idi D hib hch hch0 hR h5 t1 t2 t3 hnb hn4 hn0 hle hl row own rest
include F in
theorem qpz (hY:∀m,n<=m->Y m):∀(j t:Nat) (σ:List AObj),t+j=6->DocI W c n t z0 σ->∃z',DocI W c n 6 z0 z'/\
    ∀(cd:Hw) (fr:List HA),ForC ⟨W,Y,nm18.1,cd⟩ (k+2) fr ta18.1 bo18.1 [] (.enum (.lst (qab c)) (qab c)) t (qoq c n (n+1) (n+3) (n+5) (n+6)) σ .next (qoq c n (n+1) (n+3) (n+5) (n+6)) z':=by
  intro j;induction j with
  | zero=>
    intro t σ ht D;obtain rfl:t=6:=ht;exact ⟨σ,D,λcd fr=>ForC.done Lv.fz rfl Exs.nil⟩
  | succ j ih=>
    intro t σ ht D;have ht5:t<6:=ht ▸ CO (B6 j);have hpt:0<t->qaw c t<t:=λh=>(qev h).2
    obtain ⟨ib,ch,as,avs,hi,hib,hch,hch0,hp,hm,ha,hin,habl,hle⟩:∃ib ch as avs,σ[ib]?=ER (.lst ch)/\((t=0/\ib=n+4)\/(0<t/\ib=n+7+5*(qaw c t)+2+1))/\(0<t->ch=qgd c n t (qaw c t))/\(t=0->ch=[])/\σ[abL c n t]?=ER (.elem as avs)/\
        (as.zip avs).lookup ("makeelement":Hv)=ER (.glob (.ref A17))/\(as.zip avs).lookup ("append":Hv)=ER (.bound "list.append" (.loc ib))/\(as.zip avs).lookup ("inner":Hv)=ER (.loc ib)/\abL c n t≠ib/\n<ib:=by
      cases t with
      | zero=>exact ⟨n+4,[],_,_,D.bookI,.inl ⟨rfl,rfl⟩,λh=>absurd h (C0 0),λ_=>rfl,D.fix (j:=3) (by decide) rfl,by with_unfolding_all rfl,by with_unfolding_all rfl,by with_unfolding_all rfl,qb9 (a:=3) (b:=4) rfl,CO (by decide)⟩
      | succ t=>
        have hp:=hpt (B6 t);exact ⟨_,_,_,_,D.inn _ hp,.inr ⟨B6 t,rfl⟩,λ_=>rfl,nofun,D.els _ hp,by with_unfolding_all rfl,by with_unfolding_all rfl,by with_unfolding_all rfl,qb9 (n:=n+7+5*qaw c (t+1)) (a:=2) (b:=3) rfl,by simp +arith⟩
    obtain ⟨z',D5,hf⟩:=ih (t+1) _ ((CG t j).trans ht) (D.step hi hib hch hch0 rfl (τ:=qw1 A17 (qkl c t) (n+7+5*t) t (dI c t) (eI c t)) rfl rfl rfl rfl);refine ⟨z',D5,λcd fr=>?_⟩;have hcl:ch.length<=1000:=by
      rcases Ey t with h | h
      . rw[hch0 h];exact AJ _
      . rw[hch h];exact Af qpf (Af (Bm ht5) (by decide))
    have hab:(t=0/\abL c n t=n+3)\/(0<t/\((Ae t).map λs=>AV.loc (n+7+5*s+2))[qaw c t]?=ER (.loc (abL c n t))):=by
      cases t with
      | zero=>exact .inl ⟨rfl,rfl⟩
      | succ t=>
        refine .inr ⟨B6 t,?_⟩;rw[Ao,Dy (hpt (B6 t))];rfl
    have hb:=qpx F (Y:=Y) (cd:=cd) (k:=k) (fr:=fr) (b1:=n+5) (l1:=n+6) (qkl c t) ht5 rfl D.row (D.fix (j:=1) (by decide) rfl) hab hp hm ha hin hi (hY _ (Bm hle)) (hY _ (Aq _)) (λm hm=>hY m (Af (Af (A5 n 7) (A5 _ _)) (Af (Bn D.len.symm) hm))) (BC hle) habl hcl (by rw[Ah,AW];exact Af (Bm ht5) (by decide));rw[D.len] at hb;refine ForC.next (m1:=((qoq c n (n+1) (n+3) (n+5) (n+6)).set 8 (ER (.int (t:Nat)))).set 9 (ER (qe6 c t))) (z1:=σ) Lv.fz rfl (v:=.tup [.int (t:Nat),qe6 c t]) ?_ (λ_=>⟨_,_,_,rfl⟩) ?_ hb (hf cd fr)
    . show ((qab c).zipIdx.map λp=>AV.tup [.int p.2,p.1])[t]?=_;rw[Ao,Fk,qe5 ht5];simp
    . show As _ _ _ _ _ (.Tuple _ _ _) _ _ _;exact .(As.tuple .(AsL.cons .(Ia3 8) .(AsL.cons .(Ia3 9) .(AsL.nil) (hp:=Uu)) (hp:=Uu)))
end
end
section
section
variable (F:Fac W) {z0:List AObj}
structure DocR (W:Wd) (c:Nat->Int) (n:Nat) (z0 σ:List AObj):Prop where
  len:n+7+5*6<=σ.length
  row:σ[n]?=ER (.lst ((Ae 6).map λs=>.loc (n+7+5*s+2)))
  els:∀s,s<6->∃a,σ[n+7+5*s+2]?=ER (qjs a (n+7+5*s) s)
  att:∀s,s<6->σ[n+7+5*s+1]?=ER (.dstr (qiv (qkl c s)) (qjt (qkl c s) (dI c s) (eI c s)))
  inn:∀s,s<6->σ[n+7+5*s+2+1]?=ER (.lst (qgd c n 6 s))
  old:∀i,i<n->σ[i]?=z0[i]?
noncomputable abbrev qbt (c:Nat->Int) (n:Nat):List (Option AV):=qoq c n (n+1) (n+3) (n+5) (n+6)
noncomputable abbrev elN (n:Nat):AObj:=.elem atE (qb6 A17 (.loc (n+1)) (.loc (n - 1)) (.str "note"))
noncomputable abbrev qw7 (n:Nat):AIt:=.tup [.tup [.loc (n+39),.loc (n+41)],.tup [.loc (n+44),.loc (n+46)],.tup [.loc (n+49),.loc (n+51)]]
include F in
theorem qo5 (hY:∀m,n<=m->Y m)(D:DocI W c n 6 z0 σ):∃T,Ext (n+4) σ T/\(∀(cd:Hw) (fr:List HA),ItE ⟨W,Y,nm18.1,cd⟩ (k+2) fr (qbt c n) σ (qf3 (nth bd18.1 5)) (qw7 n) T)/\
    T[n+4]?=ER (.lst [.loc (n+7+5*0+2),.loc (n+39),.loc (n+44),.loc (n+49)])/\T[n+39]?=ER (elN (n+39))/\T[n+44]?=ER (elN (n+44))/\T[n+49]?=ER (elN (n+49))/\
    T[n+38]?=ER (.dstr [] [])/\T[n+43]?=ER (.dstr [] [])/\T[n+48]?=ER tabO/\T[n+41]?=ER (.dstr [] [])/\T[n+46]?=ER (.dstr [] [])/\T[n+51]?=ER tabO:=by
  have hl:σ.length=n+37:=D.len;have bk:=D.fix (j:=3) (by decide) rfl;obtain ⟨T1,c1,E1,l1,b1,g1,h1⟩:=qqh F (Y:=Y) (k:=k) bk D.bookI (hY _ (A5 _ _)) (Cd rfl);rw[hl] at c1 l1 b1 g1 h1;have p1:=E1.get bk (qb9 rfl);have l1':(T1++[AObj.dstr [] []]).length=n+42:=by rw[An,l1];rfl
  obtain ⟨T2,c2,E2,l2,b2,g2,h2⟩:=qqh F (Y:=Y) (k:=k) (qa6 (τ:=[AObj.dstr [] []]) p1) (qa6 b1) (hY _ (A5 _ _)) (Cd rfl);rw[l1'] at c2 l2 b2 g2 h2;have p2:=E2.get (qa6 (τ:=[AObj.dstr [] []]) p1) (qb9 rfl);have l2':(T2++[AObj.dstr [] []]).length=n+47:=by rw[An,l2];rfl
  have E02:Ext (n+4) σ (T2++[AObj.dstr [] []]):=((E1.trans Ext.app).trans E2).trans Ext.app;obtain ⟨T3,c3,E3,l3,b3,g3,h3⟩:=qts F (Y:=Y) (k:=k) (E02.get (D.fix (j:=1) (by decide) rfl) (qb9 rfl)) (qa6 (τ:=[AObj.dstr [] []]) p2) (qa6 b2) (hY _ (A5 _ _)) (Cd rfl);rw[l2'] at c3 l3 b3 g3 h3;have EA:Ext (n+4) (T1++[AObj.dstr [] []]) (T3++[tabO]):=((E2.trans Ext.app).trans E3).trans Ext.app;have EB:Ext (n+4) (T2++[AObj.dstr [] []]) (T3++[tabO]):=E3.trans Ext.app;have at0:∀{S:List AObj} {x:AObj} {m:Nat},S.length=m->(S++[x])[m]?=ER x:=λh=>qal (j:=0) h.symm
  refine ⟨T3++[tabO],E02.trans EB,λcd fr=>?_,qa6 b3,EA.get (qa6 h1) (qb9 rfl),EB.get (qa6 h2) (qb9 rfl),qa6 h3,EA.get (qa6 g1) (qb9 rfl),EB.get (qa6 g2) (qb9 rfl),qa6 g3,EA.get (at0 l1) (qb9 rfl),EB.get (at0 l2) (qb9 rfl),at0 l3⟩;have hkS:=(F.f11t .none .none .none [] [] (by decide) rfl rfl (λ_ h=>absurd h BN) (AJ _)).kept;have h:ItE ⟨W,Y,nm18.1,cd⟩ (k+2) fr (qbt c n) σ (qf3 (nth bd18.1 5)) (.tup [.tup [.loc (n+39),.loc T1.length],.tup [.loc (n+44),.loc T2.length],.tup [.loc (n+49),.loc T3.length]]) (T3++[tabO]):=by
    show ItE _ _ _ _ _ (.Tuple [.Tuple _ _ _,.Tuple _ _ _,.Tuple _ _ _] _ _) _ _;exact .(ItE.tuple .(Ev.tuple (Evs.cons .(Ev.tuple (Evs.cons .(Ev.call .(Iad 18 F.g_SubElement) (hkS) (Evs.cons .(Ia0 5) .((Evs.cons .(Ia7) .(Evs.nil)))) EvK.nil (c1 fr)) .((Evs.cons .(Icj) .(Evs.nil))))) .((Evs.cons .(Ev.tuple (Evs.cons .(Ev.call .(Iad 18 F.g_SubElement) (hkS) (Evs.cons .(Ia0 5) .((Evs.cons .(Ia7) .(Evs.nil)))) EvK.nil (c2 fr)) .((Evs.cons .(Icj) .(Evs.nil))))) .((Evs.cons .(Ev.tuple (Evs.cons .(Ev.call .(Iad 18 F.g_SubElement) (hkS) (Evs.cons .(Ia0 5) .((Evs.cons .(Ia7) .((Evs.cons .(Ia0 3) .(Evs.nil)))))) EvK.nil (c3 fr)) .((Evs.cons .(Ibn ["g","by"] (by with_unfolding_all exact EvP.cons .(Ia7) .(Ia1) (by with_unfolding_all exact EvP.cons .(Ia7) .(Ia7) (by with_unfolding_all exact EvP.nil))) Uu (by decide)) .(Evs.nil))))) .(Evs.nil))))))))
  rw[l1,l2,l3] at h;exact h
theorem qke (h1:([]:List Hv)[i]?=ER x)(h2:([]:List AV)[i]?=ER v):qbr ([]:List Hv) [] x=ER v:=by simp at h1
theorem qmg (h1:(["g","by"]:List Hv)[i]?=ER x)(h2:([.int 99,.str "hand"]:List AV)[i]?=ER v):qbr (["g","by"]:List Hv) [.int 99,.str "hand"] x=ER v:=by
  match i,h1,h2 with
  | 0,h1,h2=>injection h1 with h1;injection h2 with h2;subst h1 h2;kernel_rfl
  | 1,h1,h2=>injection h1 with h1;injection h2 with h2;subst h1 h2;kernel_rfl
  | n+2,h1,h2=>simp at h1
theorem qw9:∀v∈([.int 99,.str "hand"]:List AV),isD v=Hq/\(toP v).depth<=64:=λv hv=>by
  rcases Aw.mp hv with rfl | hv
  . exact ⟨rfl,AJ _⟩
  . obtain rfl:=AE.mp hv;exact ⟨by decide +kernel,AJ _⟩
include F in
theorem qlp (hY:∀m,n<=m->Y m){T:List AObj}(hx1:T[n+39]?=ER (elN (n+39)))(hx2:T[n+44]?=ER (elN (n+44)))(hx3:T[n+49]?=ER (elN (n+49)))(ha1:T[n+38]?=ER (.dstr [] []))(ha2:T[n+43]?=ER (.dstr [] []))(ha3:T[n+48]?=ER tabO)(hd1:T[n+41]?=ER (.dstr [] []))(hd2:T[n+46]?=ER (.dstr [] []))(hd3:T[n+51]?=ER tabO):
    ∃U,(∀j,j≠38->j≠43->j≠48->U[n+j]?=T[n+j]?)/\(∀i,i<n->U[i]?=T[i]?)/\U.length=T.length/\∀(cd:Hw) (fr:List HA),ForC ⟨W,Y,nm18.1,cd⟩ (k+2) fr ta185.1 bo185.1 [] (qw7 n) 0 (qbt c n) T .next (qbt c n) U:=by
  have as:∀(cd:Hw) (fr:List HA) (x d:Nat) (σ:List AObj),As ⟨W,Y,nm18.1,cd⟩ (k+2) fr (qbt c n) σ ta185.1 (.tup [.loc x,.loc d]) (((qbt c n).set 14 (ER (.loc x))).set 13 (ER (.loc d))) σ:=λcd fr x d σ=>by
    show As _ _ _ _ _ (.Tuple _ _ _) _ _ _;exact .(As.tuple .(AsL.cons .(Ia3 14) .(AsL.cons .(Ia3 13) .(AsL.nil) (hp:=Uu)) (hp:=Uu)))
  have le:∀j,Y (n+j):=λj=>hY _ (A5 n j)
  have turn:=λ{e a d} {σ:List AObj} {ks vs avs} cd fr h1 h2 h3 h4 h5 h6 h7 h8 h9=>qn8 F (Y:=Y) (cd:=cd) (k:=k) (fr:=fr) (e:=e) (a:=a) (d:=d) (σ:=σ) (ks:=ks) (vs:=vs) (avs:=avs) (c:=c) (rl:=n) (tl:=n+1) (bl:=n+3) (b1:=n+5) (l1:=n+6) h1 h2 h3 h4 h5 h6 h7 h8 h9
  have n0:∀v∈([]:List AV),isD v=Hq/\(toP v).depth<=64:=λ_ h=>absurd h BN
  refine ⟨_,λj q1 q2 q3=>?_,λi hi=>?_,?_,λcd fr=>ForC.next Bo rfl rfl nofun (as cd fr _ _ T) (turn cd fr hx1 Uu ha1 hd1 rfl n0 (λi x v=>qke) (le 38) (by decide))
    (ForC.next Bo rfl rfl nofun (as cd fr _ _ _) (turn cd fr ((qav (qb9 rfl)).trans hx2) Uu ((qav (qb9 rfl)).trans ha2) ((qav (qb9 rfl)).trans hd2) rfl n0 (λi x v=>qke) (le 43) (by decide))
    (ForC.next Bo rfl rfl nofun (as cd fr _ _ _) (turn cd fr ((qav (qb9 rfl)).trans ((qav (qb9 rfl)).trans hx3)) Uu ((qav (qb9 rfl)).trans ((qav (qb9 rfl)).trans ha3)) ((qav (qb9 rfl)).trans ((qav (qb9 rfl)).trans hd3)) rfl qw9 (λi x v=>qmg) (le 48) (by decide))
    (ForC.done Bo rfl Exs.nil)))⟩
  . have ne:∀{a},j≠a->n+a≠n+j:=λh e=>h (Ef e).symm
    rw[qav (ne q3),qav (ne q2),qav (ne q1)]
  . have ne:∀{a},n+a≠i:=λe=>absurd hi (e ▸ A9.mpr (A5 _ _))
    rw[qav ne,qav ne,qav ne]
  . rw[Bv,Bv,Bv]
noncomputable abbrev qkz (n:Nat):List AObj:=[.lst [],tabO,.dstr [] [],.elem atE (qb6 A17 (.loc (n+4)) (.loc (n+2)) (.str "book")),.lst []]
include F in
theorem qsp {rest:List Stmt}(hn:z0.length=n)(hK:qos W cd)(hY:∀j,Y (n+j))(h:Exs ⟨W,Y,nm18.1,cd⟩ (k+2) fr (qbt c n) (z0++qor A17 n) rest fl m' z'):
    Exs ⟨W,Y,nm18.1,cd⟩ (k+2) fr [ER (.lst (qae c)),ER (.lst (qab c)),Dt,Dt,Dt,Dt,Dt,Dt,Dt,Dt,Dt,Dt,Dt,Dt,Dt,Dt,Dt,Dt,Dt,Dt] z0 (nth bd18.1 0::nth bd18.1 1::nth bd18.1 2::nth bd18.1 3::rest) fl m' z':=by
  obtain ⟨lc,lP,hLam⟩:=hK;have ap:∀{τ:List AObj} {x:AObj},z0++τ++[x]=z0++(τ++[x]):=AF _ _ _;have ln:∀{τ:List AObj},(z0++τ).length=n+τ.length:=λ{τ}=>by rw[An,hn]
  have hc:Calls W Y (k+2) fr (z0++[AObj.lst [],tabO]++[.dstr [] []]) (.glob (.ref A17)) [.str "book",.loc (z0++[AObj.lst [],tabO]).length] [] [] (.loc (n+3)) (z0++qkz n):=
    Ian (qeg F (k:=k+1) (tag:=.str "book") (attr:=.loc (z0++[AObj.lst [],tabO]).length) rfl rfl) (by rw[ap,ln];rfl) (by rw[ap,ln,ln,AF];rfl)
  have hkE:=(F.f17 .none .none).kept;have e0:z0++[AObj.lst []]++[tabO]=z0++[.lst [],tabO]:=ap;have v0:AV.tup [.loc z0.length,.loc (z0++[AObj.lst []]).length,.bool Hq]=.tup [.loc n,.loc (n+1),.bool Hq]:=by rw[ln,hn];rfl
  have e1:z0++qkz n++[AObj.fn0]++[.fn0]=z0++(qkz n++[.fn0,.fn0]):=by rw[ap,ap];rfl
  have v1:AV.tup [.loc (n+3),.loc (z0++qkz n).length,.loc (z0++qkz n++[AObj.fn0]).length]=.tup [.loc (n+3),.loc (n+5),.loc (n+6)]:=by rw[ap,ln,ln];rfl
  have s0:Ex ⟨W,Y,nm18.1,cd⟩ (k+2) fr [ER (.lst (qae c)),ER (.lst (qab c)),Dt,Dt,Dt,Dt,Dt,Dt,Dt,Dt,Dt,Dt,Dt,Dt,Dt,Dt,Dt,Dt,Dt,Dt] z0 (nth bd18.1 0) .next ((([ER (.lst (qae c)),ER (.lst (qab c)),Dt,Dt,Dt,Dt,Dt,Dt,Dt,Dt,Dt,Dt,Dt,Dt,Dt,Dt,Dt,Dt,Dt,Dt].set 2 (ER (.loc n))).set 3 (ER (.loc (n+1)))).set 4 (ER (.bool Hq))) (z0++[.lst [],tabO]):=by
    show Ex _ _ _ _ _ (.Assign _ _ _) _ _ _;exact .(Ici (i:=2) (j:=3) (l:=4) .(Ic4 .(Ev.tuple (Evs.cons .(Ias Evs.nil) .((Evs.cons .(Ibn ["g","by"] (by with_unfolding_all exact EvP.cons .(Ia7) .(Ia1) (by with_unfolding_all exact EvP.cons .(Ia7) .(Ia7) (by with_unfolding_all exact EvP.nil))) Uu (by decide)) .((Evs.cons .(Ibh) .(Evs.nil))))))) e0 v0) Uu Uu Uu (by decide) (by decide) (by decide) Uu Uu Uu)
  have s1:Ex ⟨W,Y,nm18.1,cd⟩ (k+2) fr ((([ER (.lst (qae c)),ER (.lst (qab c)),Dt,Dt,Dt,Dt,Dt,Dt,Dt,Dt,Dt,Dt,Dt,Dt,Dt,Dt,Dt,Dt,Dt,Dt].set 2 (ER (.loc n))).set 3 (ER (.loc (n+1)))).set 4 (ER (.bool Hq))) (z0++[.lst [],tabO]) (nth bd18.1 1) .next (((((([ER (.lst (qae c)),ER (.lst (qab c)),Dt,Dt,Dt,Dt,Dt,Dt,Dt,Dt,Dt,Dt,Dt,Dt,Dt,Dt,Dt,Dt,Dt,Dt].set 2 (ER (.loc n))).set 3 (ER (.loc (n+1)))).set 4 (ER (.bool Hq))).set 5 (ER (.loc (n+3)))).set 6 (ER (.loc (n+5)))).set 7 (ER (.loc (n+6)))) (z0++(qkz n++[.fn0,.fn0])):=by
    show Ex _ _ _ _ _ (.Assign _ _ _) _ _ _;exact .(Ici (i:=5) (j:=6) (l:=7) .(Ic4 .(Ev.tuple (Evs.cons .(Ev.call .(Iad 15 F.g_law_element) (hkE) (Evs.cons .(Ia7) .((Evs.cons .(Icj) .(Evs.nil)))) EvK.nil (hc)) .((Evs.cons .(Ic5 (hLam _ _) (qnb (by kernel_rfl))) .((Evs.cons .(Ic5 (hLam _ _) (qnb (by kernel_rfl))) .(Evs.nil))))))) e1 v1) Uu Uu Uu (by decide) (by decide) (by decide) Uu Uu Uu)
  have s2:Ex ⟨W,Y,nm18.1,cd⟩ (k+2) fr (qbt c n) (z0++(qkz n++[.fn0,.fn0])) (nth bd18.1 2) .next (qbt c n) (z0++(qkz n++[.elem ["attrib"] [.loc (n+1)],.fn0])):=by
    show Ex _ _ _ _ _ (.Assign _ _ _) _ _ _;have g:(z0++(qkz n++[AObj.fn0,.fn0]))[n+5]?=ER .fn0:=qal (j:=5) (by rw[hn]);have s:(z0++(qkz n++[AObj.fn0,.fn0])).set (n+5) (.elem ["attrib"] [.loc (n+1)])=z0++(qkz n++[.elem ["attrib"] [.loc (n+1)],.fn0]):=qcw (j:=5) (by rw[hn]);have y:=hY 5;exact .(Ia4 .(Ia0 3) .(Ibr .(Icm .(Ia0 6) (by exact g) qc2 (by exact y) (hp:=Uu)) s))
  have s3:Ex ⟨W,Y,nm18.1,cd⟩ (k+2) fr (qbt c n) (z0++(qkz n++[.elem ["attrib"] [.loc (n+1)],.fn0])) (nth bd18.1 3) .next (qbt c n) (z0++qor A17 n):=by
    show Ex _ _ _ _ _ (.Assign _ _ _) _ _ _;have g:(z0++(qkz n++[AObj.elem ["attrib"] [.loc (n+1)],.fn0]))[n+6]?=ER .fn0:=qal (j:=6) (by rw[hn]);have s:(z0++(qkz n++[AObj.elem ["attrib"] [.loc (n+1)],.fn0])).set (n+6) (.elem ["tag"] [.str "lone"])=z0++qor A17 n:=qcw (j:=6) (by rw[hn]);have y:=hY 6;exact .(Ia4 .(Ia7) .(Ibr .(Icm .(Ia0 7) (by exact g) qfk (by exact y) (hp:=Uu)) s))
  have em:((((((([ER (.lst (qae c)),ER (.lst (qab c)),Dt,Dt,Dt,Dt,Dt,Dt,Dt,Dt,Dt,Dt,Dt,Dt,Dt,Dt,Dt,Dt,Dt,Dt].set 2 (ER (.loc n))).set 3 (ER (.loc (n+1)))).set 4 (ER (.bool Hq))).set 5 (ER (.loc (n+3)))).set 6 (ER (.loc (n+5)))).set 7 (ER (.loc (n+6)))):List (Option AV))=qbt c n:=by kernel_rfl
  rw[em] at s1;with_reducible exact Exs.cons s0 (Exs.cons s1 (Exs.cons s2 (Exs.cons s3 h)))
include F in
theorem qpy {U:List AObj}{v0:List AV}(u0:U[n]?=ER (.lst v0))(u1:U[n+1]?=ER tabO)(u3:U[n+3]?=ER (.elem atE (qb6 A17 (.loc (n+4)) (.loc (n+2)) (.str "book"))))(u4:U[n+4]?=ER (.lst [.loc (n+9),.loc (n+39),.loc (n+44),.loc (n+49)]))(u5:U[n+5]?=ER (.elem ["attrib"] [.loc (n+1)]))(u6:U[n+6]?=ER (.elem ["tag"] [.str "lone"]))(ue:U[n+9]?=ER (qjs A17 (n+7) 0))(ux1:U[n+39]?=ER (elN (n+39)))(ux2:U[n+44]?=ER (elN (n+44)))(ux3:U[n+49]?=ER (elN (n+49))):Exs ⟨W,Y,nm18.1,cd⟩ (k+2) fr (qbt c n) U [nth bd18.1 6,nth bd18.1 7] (.ret (.tup [.loc n,.bool Hq])) ((qbt c n).set 4 (ER (.bool Hq))) (U++[tabO]):=by
  obtain ⟨xs,hxs⟩:∃xs:List (Nat×Hv×List Hv×List AV),xs=[(n+9,("e0":Hv),at7,[.int ((0:Nat):Int),.glob (.ref A17),.bound "list.append" (.loc (n+10)),.loc (n+10),.loc (n+8),.str (qm1 0)]),(n+39,"note",atE,qb6 A17 (.loc (n+40)) (.loc (n+38)) (.str "note")),(n+44,"note",atE,qb6 A17 (.loc (n+45)) (.loc (n+43)) (.str "note")),(n+49,"note",atE,qb6 A17 (.loc (n+50)) (.loc (n+48)) (.str "note"))]:=⟨_,rfl⟩
  have t0:qm1 0="e0":=by decide +kernel
  have htg:∀x∈xs,U[x.1]?=ER (.elem x.2.2.1 x.2.2.2)/\(x.2.2.1.zip x.2.2.2).lookup ("tag":Hv)=ER (.str x.2.1):=hxs ▸ fac ⟨ue,t0 ▸ by with_unfolding_all rfl⟩ (fac ⟨ux1,by with_unfolding_all rfl⟩ (fac ⟨ux2,by with_unfolding_all rfl⟩ (fac ⟨ux3,by with_unfolding_all rfl⟩ fa0)));have hxi:(AIt.seq (.loc (n+4)) [.loc (n+9),.loc (n+39),.loc (n+44),.loc (n+49)]).items=xs.map (λx=>AV.loc x.1):=by rw[hxs];rfl
  have hxz:xs.length<=2 ^ 20:=by rw[hxs];exact (by decide:4<=2 ^ 20)
  have hsl:xs.map (λx=>AV.str x.2.1)=[.str "e0",.str "note",.str "note",.str "note"]:=by rw[hxs];rfl
  have hDr:D1 64 (.lst [.str "e0",.str "note",.str "note",.str "note"]):=⟨by decide +kernel,by decide +kernel⟩
  have hDl:D1 64 (.lst (xs.map λx=>AV.str x.2.1)):=hsl ▸ hDr;have hcmp:Hq=Hq↔AV.lst (xs.map λx=>AV.str x.2.1)=.lst [.str "e0",.str "note",.str "note",.str "note"]:=⟨λ_=>congrArg AV.lst hsl,λ_=>rfl⟩
  have htq:=Ibv (W:=W) (Y:=Y) (k:=k+2) (fr:=fr) (σ:=U++[tabO]) (n:=n+1) (n':=U.length) (qa6 u1) (qal (j:=0) rfl) rfl rfl qw9 (λi x v h1 h2=>qmg h1 h2);have hkI:=(F.f10 .none).kept;have hi1:Calls W Y (k+2) fr (U++[tabO]) (.glob (.ref A10)) [.loc (n+6)] [] [] (.bool Hq) (U++[tabO]):=qui F (k:=k+1) λk fr Y=>Ibq (qa6 u6) Uu rfl qfk
  have hi2:Calls W Y (k+2) fr (U++[tabO]) (.glob (.ref A10)) [.loc (n+5)] [] [] (.bool Hr) (U++[tabO]):=qui F (k:=k+1) λk fr Y=>Icu (qa6 u5) (by decide) qfk (by decide) (by decide +kernel)
  have hi3:Calls W Y (k+2) fr (U++[tabO]) (.glob (.ref A10)) [.loc n] [] [] (.bool Hr) (U++[tabO]):=qui F (k:=k+1) λk fr Y=>Icb (Lv.loc (qa6 u0))
  have hi4:Calls W Y (k+2) fr (U++[tabO]) (.glob (.ref A10)) [.loc (n+1)] [] [] (.bool Hr) (U++[tabO]):=qui F (k:=k+1) λk fr Y=>Icc (qa6 u1)
  have s6:Ex ⟨W,Y,nm18.1,cd⟩ (k+2) fr (qbt c n) U (nth bd18.1 6) .next ((qbt c n).set 4 (ER (.bool Hq))) (U++[tabO]):=by
    show Ex _ _ _ _ _ (.Assign _ _ _) _ _ _;exact .(Ia4 .(Ic6 .(EvAnd.cons .(Ia0 4) .(EvAnd.cons .(Ev.cmp .(Iao .(ItE.list .(Iay .(Ia0 5) (by exact u3) Uu qe3) (Lv.loc u4)) (CompIn.of [Dt,Dt] (by kernel_rfl) (by kernel_rfl)) .(CompC.map (hx:=by assumption) (hO:=by with_unfolding_all exact Lv.loc (by assumption)) (hz:=by assumption) Uu (xs) ((λx:Nat×Hv×List Hv×List AV=>AV.loc x.1)) ((λx=>AV.str x.2.1)) _ (λx hx=>.(Ia3 1)) (λx hx=>.(Iay .(Ia0 1) (by exact (htg x hx).1) (by exact (htg x hx).2) qfk)) .(λ_=>Weak.set Uu))) .(Ev.list (Evs.cons .(Ia7) .((Evs.cons .(Ia7) .((Evs.cons .(Ia7) .((Evs.cons .(Ia7) .(Evs.nil))))))))) (Ids (Dv.of hDl) (Dv.of hDr) hcmp)) .(EvAnd.one .(Ev.cmp .(Ia0 3) .(Ibn ["g","by"] (by with_unfolding_all exact EvP.cons .(Ia7) .(Ia1) (by with_unfolding_all exact EvP.cons .(Ia7) .(Ia7) (by with_unfolding_all exact EvP.nil))) Uu (by decide)) (htq)))))) .(Ia3 4))
  have s7:Ex ⟨W,Y,nm18.1,cd⟩ (k+2) fr ((qbt c n).set 4 (ER (.bool Hq))) (U++[tabO]) (nth bd18.1 7) (.ret (.tup [.loc n,.bool Hq])) ((qbt c n).set 4 (ER (.bool Hq))) (U++[tabO]):=by
    show Ex _ _ _ _ _ (.Return _ _) _ _ _;exact .(Iai .(Ev.tuple (Evs.cons .(Ia0 2) .((Evs.cons .(Ic6 .(EvAnd.cons .(Ia0 4) .(EvAnd.cons .(Ev.cmp .(Ev.call .(Iad 19 F.g_iselement) (hkI) (Evs.cons .(Ia0 7) .(Evs.nil)) EvK.nil (hi1)) .(Ibh) (Ibj Ib5 rfl)) .(EvAnd.cons .(Ev.cmp .(Ev.call .(Iad 19 F.g_iselement) (hkI) (Evs.cons .(Ia0 6) .(Evs.nil)) EvK.nil (hi2)) .(Ibh) (Ibj Ib5 rfl)) .(EvAnd.cons .(Ev.cmp .(Ev.call .(Iad 19 F.g_iselement) (hkI) (Evs.cons .(Ia0 2) .(Evs.nil)) EvK.nil (hi3)) .(Ibh) (Ibj Ib5 rfl)) .(EvAnd.one .(Ev.cmp .(Ev.call .(Iad 19 F.g_iselement) (hkI) (Evs.cons .(Ia0 3) .(Evs.nil)) EvK.nil (hi4)) .(Ibh) (Ibj Ib5 rfl)))))))) .(Evs.nil))))))
  with_reducible exact Exs.cons s6 (Exs.ret s7)
include F in
theorem qo6:∃z',DocR W c z0.length z0 z'/\∀fr,Calls W Y (k+3) fr z0 (.glob (.ref A18)) [.lst (qae c),.lst (qab c)] [] [] (.tup [.loc z0.length,.bool Hq]) z':=by
  obtain ⟨n,hn⟩:∃n,z0.length=n:=⟨_,rfl⟩
  rw[hn];have new:∀j,(z0++qor A17 n)[n+j]?=(qor A17 n)[j]?:=λj=>qal (by rw[hn])
  have D0:DocI W c n 0 z0 (z0++qor A17 n):=⟨by rw[An,hn];rfl,new 0,λ{j x} _ hx=>(new j).trans hx,new 4,λs hs=>absurd hs (Cf s),λs hs=>absurd hs (Cf s),λs hs=>absurd hs (Cf s),λi hi=>BI (hn ▸ hi)⟩
  have hY:∀m,n<=m->(λm=>Y m\/n<=m) m:=λm hm=>.inr hm
  refine qa4 (qpz F (k:=k) hY 6 0 _ rfl D0) ?_;intro z1 D5 hl1;obtain ⟨T,E1,hit,T4,x1,x2,x3,a1,a2,a3,d1,d2,d3⟩:=qo5 F (k:=k) hY D5;refine qbl (qlp F (k:=k) (c:=c) hY x1 x2 x3 a1 a2 a3 d1 d2 d3) ?_;intro U hU hUo hUl hl2;have hl5:z1.length=n+37:=D5.len;have E2:∀{j x},j<37->j≠4->z1[n+j]?=ER x->U[n+j]?=ER x:=λ{j x} h1 h2 h3=>(hU j (BC (Bc h1 (by decide))) (BC (Bc h1 (by decide))) (BC (Bc h1 (by decide)))).trans (E1.get h3 λe=>h2 (Ef e))
  have E3:∀{s j x},s<6->j<4->z1[n+7+5*s+j]?=ER x->U[n+7+5*s+j]?=ER x:=λ{s j x} h1 h2 h3=>by
    have e:n+7+5*s+j=n+(7+5*s+j):=by rw[Nat.add_assoc n,Nat.add_assoc n]
    rw[e] at h3 ⊢;exact E2 (by lia) (by simp +arith) h3
  have F5:∀{j x},j∈[1,3,5,6]->(qor A17 n)[j]?=ER x->U[n+j]?=ER x:=λh hx=>E2 (Bc (qju h).2.1 (by decide)) (qju h).2.2 (D5.fix h hx)
  have u0:U[n]?=ER (.lst ((Ae 6).map λs=>.loc (n+7+5*s+2))):=E2 (j:=0) (by decide) (by decide) D5.row;have up:∀{i x},U[i]?=ER x->(U++[tabO])[i]?=ER x:=qa6;refine ⟨U++[tabO],⟨by rw[An,hUl];exact D3 (Af (Bn hl5.symm) E1.1),up u0,λs hs=>⟨A17,up (E3 hs (by decide) (D5.els s hs))⟩,λs hs=>up (E3 hs (by decide) (D5.att s hs)),λs hs=>up (E3 (j:=3) hs (by decide) (D5.inn s hs)),λi hi=>?_⟩,λfr=>?_⟩
  . have hT:=Ag hi (Af (A5 n 37) (Bn hl5.symm));rw[BI (hUl ▸ Ag hT E1.1),hUo i hi,E1.2 i hT (BC (Ag hi (A5 n 4)))];exact D5.old i hi
  . refine Ibg (F.f18 (.lst (qae c)) (.lst (qab c))) (m':=(qbt c n).set 4 (ER (.bool Hq))) (fl:=.ret (.tup [.loc n,.bool Hq])) (λcd env hK=>Exs.f ?_) (by rw[hn,An,hUl];exact D3 (Af (A5 n 37) (Af (Bn hl5.symm) E1.1))) rfl rfl;rw[hn];have l4:Ex ⟨W,λm=>Y m\/n<=m,nm18.1,cd⟩ (k+2) (env::fr) (qbt c n) (z0++qor A17 n) (nth bd18.1 4) .next (qbt c n) z1:=by
      show Ex _ _ _ _ _ (.For _ _ _ _ _) _ _ _;have hl1:=hl1 cd (env::fr);exact .(Ib2 .(ItE.call .(Iah 16 F.b_enumerate) .(Kept.type) (Evs.cons .(Ia0 1) .(Evs.nil)) .(CallIt.enum (Lv.fz))) (by with_unfolding_all exact ForC.pre hl1 Weak.refl))
    have l5:Ex ⟨W,λm=>Y m\/n<=m,nm18.1,cd⟩ (k+2) (env::fr) (qbt c n) z1 (nth bd18.1 5) .next (qbt c n) U:=by
      show Ex _ _ _ _ _ (.For _ _ _ _ _) _ _ _;have hit:=hit cd (env::fr);have hl2:=hl2 cd (env::fr);exact .(Ib2 (by with_unfolding_all exact hit) (by with_unfolding_all exact ForC.pre hl2 Weak.refl))
    have p:=qpy F (n:=n) (Y:=λm=>Y m\/n<=m) (cd:=cd) (k:=k) (fr:=env::fr) (c:=c) u0 (F5 (j:=1) (by decide) rfl) (F5 (j:=3) (by decide) rfl) ((hU 4 (by decide) (by decide) (by decide)).trans T4) (F5 (j:=5) (by decide) rfl) (F5 (j:=6) (by decide) rfl) (E3 (s:=0) (j:=2) (by decide) (by decide) (D5.els 0 (by decide))) ((hU 39 (by decide) (by decide) (by decide)).trans x1) ((hU 44 (by decide) (by decide) (by decide)).trans x2) ((hU 49 (by decide) (by decide) (by decide)).trans x3);have r:Exs ⟨W,λm=>Y m\/n<=m,nm18.1,cd⟩ (k+2) (env::fr) (qbt c n) (z0++qor A17 n) [nth bd18.1 4,nth bd18.1 5,nth bd18.1 6,nth bd18.1 7] (.ret (.tup [.loc n,.bool Hq])) ((qbt c n).set 4 (ER (.bool Hq))) (U++[tabO]):=by with_reducible exact Exs.cons l4 (Exs.cons l5 p)
    have y:∀j,(λm=>Y m\/n<=m) (n+j):=λj=>hY (n+j) (A5 n j)
    have e:Exs ⟨W,λm=>Y m\/n<=m,nm18.1,cd⟩ (k+2) (env::fr) [ER (.lst (qae c)),ER (.lst (qab c)),Dt,Dt,Dt,Dt,Dt,Dt,Dt,Dt,Dt,Dt,Dt,Dt,Dt,Dt,Dt,Dt,Dt,Dt] z0 [nth bd18.1 0,nth bd18.1 1,nth bd18.1 2,nth bd18.1 3,nth bd18.1 4,nth bd18.1 5,nth bd18.1 6,nth bd18.1 7] (.ret (.tup [.loc n,.bool Hq])) ((qbt c n).set 4 (ER (.bool Hq))) (U++[tabO]):=by with_reducible exact qsp F hn hK y r
    have hb:bd18.1=[nth bd18.1 0,nth bd18.1 1,nth bd18.1 2,nth bd18.1 3,nth bd18.1 4,nth bd18.1 5,nth bd18.1 6,nth bd18.1 7]:=by kernel_rfl
    rw[hb];with_reducible exact e
end
end
section
noncomputable abbrev qaa (l:List Nat):List AV:=l.map λw=>AV.int ((w:Nat):Int)
noncomputable abbrev qdm (g h:Nat->Int) (B:List Nat):AV:=.tup [.int (tot g B),.int (tot h B),.lst (qaa B)]
noncomputable abbrev qax (g h:Nat->Int) (row:List (List Nat)):List AV:=row.map (qdm g h)
theorem qiq (l:List Nat):qac b (qaa l)=Hq:=qc8 λv hv=>by
  obtain ⟨i,_,rfl⟩:=Bg.mp hv;rfl
theorem qlt {g h:Nat->Int}(B:List Nat):qb5 b (qdm g h B)=Hq:=by
  show (Hq&&(Hq&&(qac b (qaa B)&&Hq)))=Hq;rw[qiq];rfl
theorem qjz {g h:Nat->Int}(row:List (List Nat)):qac b (qax g h row)=Hq:=qc8 λv hv=>by
  obtain ⟨i,_,rfl⟩:=Bg.mp hv;exact qlt i
theorem qeu (l:List Nat):plain (.lst (qaa l))=Hq:=qaq (λ_=>rfl) _
theorem qay {g h:Nat->Int}(B:List Nat):plain (qdm g h B)=Hq:=by
  show (Hq&&(Hq&&(plain (.lst (qaa B))&&Hq)))=Hq;rw[qeu];rfl
theorem qao {g h:Nat->Int}(row:List (List Nat)):plains (qax g h row)=Hq:=qa9 (λB=>qay B) _
theorem qgk {a b:Int}(h1:-(2 ^ 64)<b)(h2:b<2 ^ 64):Fi a b:=Fi.of_right (intBits_le_64 h1 h2)
section
variable (F:Fac W) {g h:Nat->Int}
include F in
theorem qam {B:List Nat}(b:Bk g h B):Calls W Y (k+1) fr σ (.glob (.ref A19)) [qdm g h B] [] [] (.int (-(rat g h 12252240 B))) σ:=by
  obtain ⟨h1,h2,h3,h4⟩:=b;have hz:tot h B≠0/\(tot h B).natAbs<2 ^ 64:=by grind
  have e0:(12252240:Int).fdiv (tot h B)=12252240 / tot h B:=Dc _ (AU h1);have hm:Fi (-(tot g B)) ((12252240:Int).fdiv (tot h B)):=by
    have q1:=Eu (a:=12252240) (b:=tot h B) (by decide) (AU h1);have q2:=Int.ediv_le_self (a:=12252240) (tot h B) (by decide);rw[e0];exact qgk (by lia) (by lia)
  have ev:AV.int (-(tot g B)*(12252240:Int).fdiv (tot h B))=.int (-(rat g h 12252240 B)):=by rw[e0,rat,Int.neg_mul]
  refine Iaq (F.f19 (qdm g h B)) (m':=[ER (qdm g h B)]) (fl:=.ret (.int (-(rat g h 12252240 B)))) (λcd env _=>Exs.f ?_) rfl rfl;show Exs _ _ _ _ _ (_::_) _ _ _;exact .(Exs.ret .(Iai .(Iag .(Ia2 .(Icq .(Iae .(Ia0 0) .(Ia1) .(⟨_,rfl,rfl⟩))) .(Ia2 .(Ia1) .(Iae .(Ia0 0) .(Ia1) .(⟨_,rfl,rfl⟩)) (Iak hz.1 hz.2)) (Ibu hm)) (ev))))
end
end
section
structure DocS (c:Nat->Int) (n:Nat) (σ:List AObj):Prop where
  els:∀s,s<6->∃a,σ[n+7+5*s+2]?=ER (qjs a (n+7+5*s) s)
  att:∀s,s<6->σ[n+7+5*s+1]?=ER (.dstr (qiv (qkl c s)) (qjt (qkl c s) (dI c s) (eI c s)))
  inn:∀s,s<6->σ[n+7+5*s+2+1]?=ER (.lst (qgd c n 6 s))
theorem DocR.s {z0:List AObj}(D:DocR W c n z0 σ):DocS c n σ:=⟨D.els,D.att,D.inn⟩
theorem DocS.app (D:DocS c n σ):DocS c n (σ ++ τ):=
  ⟨λs hs=>(D.els s hs).imp λa h=>qa6 h,λs hs=>qa6 (D.att s hs),λs hs=>qa6 (D.inn s hs)⟩
def qvk (W:Wd) (lf:Bool) (g h:Nat->Int) (pv:AV):Prop:=Kept W pv/\∀(Y:Nat->Prop) (σ:List AObj) (n:Nat) (row:List (List Nat)) (B:List Nat),σ[n]?=ER (.lst (qax g h row))->Y n->Srt g h row->(∀A∈row,Bk g h A)->Bk g h B->row.length<=1000->∀k fr,Calls W Y (k+3) fr σ pv [.loc n,qdm g h B] ["key"] [.glob (.ref A19)] .none (σ.set n (.lst (qax g h (qkt (pB g h lf B) B row))))
theorem t6:T6 (qaw c) (dI c) (eI c):=by
  have q:∀(x:Int) (n:Nat),0<n->∃m:Nat,x.fmod n=m/\m<n:=λx n h=>qpp h
  refine ⟨λk hk=>(qev hk).2,λk=>?_,λk=>?_,λk=>?_⟩
  . obtain ⟨m,e,hm⟩:=q ((qd9 c k).fdiv 9) 3 (by decide);show 0<((qd9 c k).fdiv 9).fmod 3+1;have e:((qd9 c k).fdiv 9).fmod 3=m:=e
    simp_all
  . obtain ⟨m,e,hm⟩:=q ((qd9 c k).fdiv 9) 3 (by decide);show ((qd9 c k).fdiv 9).fmod 3+1<=3;have e:((qd9 c k).fdiv 9).fmod 3=m:=e;omega
  . obtain ⟨m,e,hm⟩:=q (qd9 c k) 9 (by decide);show -5<=(qd9 c k).fmod 9 - 3/\(qd9 c k).fmod 9 - 3<=5;have e:(qd9 c k).fmod 9=m:=e;omega
theorem qba (F:Fac W):Kept W (.glob (.ref A19)):=(F.f19 .none).kept
section
variable (F:Fac W) {g h:Nat->Int}
include F in
theorem qwb (lf:Bool):qvk W lf g h (.glob (.ref (if lf then A3 else A1))):=by
  have key:∀{row:List (List Nat)} (κ:Nat->Int),κ=(λj=>-(rat g h 12252240 (row.getD j [])))->∀{j:Nat} {v:AV},(qax g h row)[j]?=ER v->∃A,row[j]?=ER A/\v=qdm g h A/\κ j=-(rat g h 12252240 A):=by
    intro row κ hκ j v hv;rw[qax,Ao] at hv;obtain ⟨A,h1,h2⟩:=Option.map_eq_some_iff.mp hv;exact ⟨A,h1,h2.symm,by rw[hκ];show -(rat g h 12252240 (row.getD j []))=_;rw[qas h1]⟩
  have val:∀{row:List (List Nat)} {r:Nat} {B:List Nat},(qax g h row).take r ++ [qdm g h B] ++ (qax g h row).drop r=qax g h (row.take r ++ [B] ++ row.drop r):=by
    intro row r B;rw[qax,qax,AT,AT,Ff,List.map_drop];rfl
  cases lf with
  | true=>
    refine ⟨(F.f3k2 .none .none .none).kept,λY σ n row B hn hY hs hb bB hz k fr=>?_⟩;obtain ⟨r,r1,r2,r3⟩:=qjk (qmy (lf:=Hq) (B:=B) hs);rw[r2,<- val];refine qul F (κ:=λj=>-(rat g h 12252240 (row.getD j []))) (kx:=-(rat g h 12252240 B)) (d:=1) hn hY (by rw[Ah,AB];lia) (by rw[Ah];exact r1) (λj _ hj=>?_) (qba F) rfl (λj v hv k fr Y=>?_) (λk fr Y=>qam F bB) (qay B) k fr
    . obtain ⟨A,h1,_,h2⟩:=key (row:=row) (j:=j) _ rfl (Aj hj);rw[h2,<- r3 j A h1];show _↔decide (_<_)=Hq;rw[decide_eq_true_iff];simp
    . obtain ⟨A,h1,rfl,h2⟩:=key (row:=row) _ rfl hv;show Calls W Y (k+1) fr σ _ _ _ _ (.int (-(rat g h 12252240 (row.getD j [])))) σ;rw[qas h1];exact qam F (hb A (Av h1))
  | false=>
    refine ⟨(F.f1k2 .none .none .none).kept,λY σ n row B hn hY hs hb bB hz k fr=>?_⟩;obtain ⟨r,r1,r2,r3⟩:=qjk (qmy (lf:=Hr) (B:=B) hs);rw[r2,<- val];refine quk F (κ:=λj=>-(rat g h 12252240 (row.getD j []))) (kx:=-(rat g h 12252240 B)) (d:=1) hn hY (by rw[Ah,AB];lia) (by rw[Ah];exact r1) (λj _ hj=>?_) (qba F) rfl (λj v hv k fr Y=>?_) (λk fr Y=>qam F bB) (qay B) k fr
    . obtain ⟨A,h1,_,h2⟩:=key (row:=row) (j:=j) _ rfl (Aj hj);have q:=r3 j A h1;have q2:pB g h Hr B A=decide (rat g h 12252240 B<=rat g h 12252240 A):=rfl;rw[q2,decide_eq_true_iff] at q;rw[h2];grind
    . obtain ⟨A,h1,rfl,h2⟩:=key (row:=row) _ rfl hv;show Calls W Y (k+1) fr σ _ _ _ _ (.int (-(rat g h 12252240 (row.getD j [])))) σ;rw[qas h1];exact qam F (hb A (Av h1))
end
noncomputable def blM (node put:AV) (rl:Nat) (head:AV):List (Option AV):=[ER (node),ER (put),ER (.loc rl),ER (head),Dt,Dt,Dt,Dt]
noncomputable def ta20:PSigma (λl=>(qbm (nth bd20.1 1))=l):=⟨_,by conv=>lhs;whnf⟩
noncomputable def bo20:PSigma (λl=>(qb4 (nth bd20.1 1))=l):=⟨_,by conv=>lhs;whnf⟩
noncomputable def ta21i:PSigma (λl=>(qbm (nth (qb4 (nth bd20.1 1)) 0))=l):=⟨_,by conv=>lhs;whnf⟩
noncomputable def bo21i:PSigma (λl=>(qb4 (nth (qb4 (nth bd20.1 1)) 0))=l):=⟨_,by conv=>lhs;whnf⟩
noncomputable def te20w:PSigma (λl=>(qiz (nth bd20.1 2))=l):=⟨_,by conv=>lhs;whnf⟩
noncomputable def bo20w:PSigma (λl=>(qb4 (nth bd20.1 2))=l):=⟨_,by conv=>lhs;whnf⟩
section
variable (F:Fac W) {g h:Nat->Int} {pv node head:AV}
include F in
theorem qoz (P:qvk W lf g h pv)(hpn:plain node=Hq)(hY:Y σ.length){x:Nat}{L:List (List Nat)}:∀(r pre row:List (List Nat)),L=pre ++ r->Srt g h row->(∀B∈row,Bk g h B)->(∀B∈r,Bk g h B)->row.length+r.length<=100->
    ForC ⟨W,Y,nm20.1,cd⟩ (k+3) fr ta21i.1 bo21i.1 [] (.seq (.lst (qax g h L)) (qax g h L)) pre.length ((blM node pv σ.length head).set 4 (ER (.loc x))) (σ ++ [.lst (qax g h row)]) .next ((blM node pv σ.length head).set 4 (ER (.loc x))) (σ ++ [.lst (qax g h (qee (pB g h lf) row r))]):=by
  intro r;induction r with
  | nil=>
    intro pre row hL _ _ _ _;exact ForC.done Lv.fz (by rw[hL,AO];exact Ah _) Exs.nil
  | cons B r ih=>
    intro pre row hL hs hb hr hz;have hz:row.length+(r.length+1)<=100:=hz;have hbB:=hr B Ac;have hins:=ih (pre ++ [B]) (qkt (pB g h lf B) B row) (by rw[hL,AF];rfl) (qh4 (λA=>qvr B A) (λA=>qvq B A) hs) (λA hA=>by
      rcases Aw.mp ((qc7 (pB g h lf B) B row).mem_iff.mp hA) with rfl | hA
      . exact hbB
      . exact hb A hA) (λA hA=>hr A (Ak _ hA)) (by rw[(qc7 (pB g h lf B) B row).length_eq,Bu];lia)
    rw[An,Ba] at hins;have hc:=P.2 Y (σ ++ [.lst (qax g h row)]) σ.length row B (by simp) hY hs hb hbB (by lia) k fr;have e:(σ ++ [AObj.lst (qax g h row)]).set σ.length (.lst (qax g h (qkt (pB g h lf B) B row)))=σ ++ [.lst (qax g h (qkt (pB g h lf B) B row))]:=by simp
    rw[e] at hc;have hk:=P.1;refine ForC.next (m1:=((blM node pv σ.length head).set 4 (ER (.loc x))).set 5 (ER (qdm g h B))) (z1:=σ ++ [.lst (qax g h row)]) (m2:=(blM node pv σ.length head).set 4 (ER (.loc x))) (v:=qdm g h B) Lv.fz (qao _) (by show (qax g h L)[_]?=_;rw[qax,Ao,hL,BX (Aq _),GK];rfl) nofun ?_ ?_ hins
    . show As _ _ _ _ _ (.Name _ _) _ _ _;exact .(Ia3 5 (hp:=qay B))
    . refine Exs.post (m2:=((blM node pv σ.length head).set 4 (ER (.loc x))).set 5 (ER (qdm g h B))) ?_ (Weak.set rfl);show Exs _ _ _ _ _ (_::_) _ _ _;exact .(Exs.cons .(Ex.expr .(Ev.call .(Ia0 1) (hk) (Evs.cons .(Ia0 2) .((Evs.cons .(Ia0 5) .(Evs.nil)))) (EvK.cons .(Iad 7 F.g_law_rate) .(EvK.nil)) (hc))) .(Exs.nil))
end
end
section
theorem qg4 (l:List Nat):D1 (d+1) (.lst (qaa l)):=D1.lst λ_ _=>D1.int
theorem quz {g h:Nat->Int}(B:List Nat):D1 63 (qdm g h B):=by
  with_unfolding_all refine D1.tup (f:=id) (l:=[.int (tot g B),.int (tot h B),.lst (qaa B)]) (d:=62) λx hx=>?_
  rcases Aw.mp hx with rfl | hx
  . exact D1.int
  . rcases Aw.mp hx with rfl | hx
    . exact D1.int
    . obtain rfl:=AE.mp hx;exact qg4 B
theorem quy {g h:Nat->Int}(row:List (List Nat)):D1 64 (.lst (qax g h row)):=D1.lst (d:=63) λB _=>quz B
section
variable (F:Fac W) {g h:Nat->Int} {pv node:AV}
include F in
theorem qia (hY:Y σ.length)(T:∀B,N6 B->B≠[]->Bk g h B):∀(row:List (List Nat)) (cur:List Nat),N6 (cur ++ row.flatten)->cur≠[]->(∀B∈row,B≠[])->∃cur' row',qfx g h 12252240 cur row=cur'::row'/\
    ∀(cd:Hw) (fr:List HA),WhileC ⟨W,Y,nm20.1,cd⟩ (k+1) fr te20w.1 bo20w.1 [] (blM node pv σ.length (qdm g h cur)) (σ ++ [.lst (qax g h row)]) .next (blM node pv σ.length (qdm g h cur')) (σ ++ [.lst (qax g h row')])
  | [],cur,_,_,_=>by
    refine ⟨cur,[],rfl,λcd fr=>Ib1 (z1:=σ ++ [.lst (qax g h [])]) ?_ Exs.nil⟩;have hn:Dv (σ ++ [AObj.lst (qax g h [])]) (.loc σ.length) (.lst []):=Ic1 (by simp) D1.nil;show Tr _ _ _ _ _ (.BoolOp _ _ _) _ _;exact .(Iab .(Ib3 .(Ic0 (b:=Hr) (c:=Hr) .(Tr.cmp .(Ia0 2) .(Ev.list Evs.nil) (Op2.ne (c:=Hr) hn (Dv.of D1.nil) ⟨nofun,λq=>absurd rfl q⟩)) (λh=>nomatch h) (λ_=>rfl))) (show (Hr&&Hr)=Hr from rfl))
  | B::row,cur,hN,hc,hr=>by
    have hB:=hr B Ac;have e1:cur ++ (B::row).flatten=(cur ++ B) ++ row.flatten:=by rw[Bs,AF]
    have bc:Bk g h cur:=T cur (hN.sub (BO _ _)) hc;have bB:Bk g h B:=T B (hN.sub ((BO B _).trans (by rw[Bs];exact De _ _))) hB;have hL:(σ ++ [AObj.lst (qax g h (B::row))])[σ.length]?=ER (.lst (qax g h (B::row))):=by simp
    have hlen:row.length<=6:=N6.len (hN.sub (by rw[Bs];exact (De _ _).trans (De _ _))) λA hA=>hr A (Ak _ hA)
    have hz:(qax g h (B::row)).length<=Ai:=by rw[Ah,Bu,AB];lia
    have hn:Dv (σ ++ [AObj.lst (qax g h (B::row))]) (.loc σ.length) (.lst (qax g h (B::row))):=Ic1 hL (quy _);have hne:Hq=Hq↔AV.lst (qax g h (B::row))≠.lst []:=⟨λ_=>nofun,λ_=>rfl⟩
    have hix:∃j,Di 0 (qax g h (B::row)).length=ER j/\(qax g h (B::row))[j]?=ER (qdm g h B):=qbi (j:=0) rfl rfl;have c1:=λfr=>qam F (W:=W) (Y:=Y) (k:=k) (fr:=fr) (σ:=σ ++ [.lst (qax g h (B::row))]) bB
    have c2:=λfr=>qam F (W:=W) (Y:=Y) (k:=k) (fr:=fr) (σ:=σ ++ [.lst (qax g h (B::row))]) bc
    have hk:=qba F;have ht:∀(cd:Hw) (fr:List HA),Tr ⟨W,Y,nm20.1,cd⟩ (k+1) fr (blM node pv σ.length (qdm g h cur)) (σ ++ [.lst (qax g h (B::row))]) te20w.1 (Hq&&decide (-(rat g h 12252240 B)<=-(rat g h 12252240 cur))) (σ ++ [.lst (qax g h (B::row))]):=λcd fr=>by
      have c1:=c1 fr;have c2:=c2 fr;show Tr _ _ _ _ _ (.BoolOp _ _ _) _ _;exact .(Ib3 .(Ic0 .(Tr.cmp .(Ia0 2) .(Ev.list Evs.nil) (Op2.ne hn (Dv.of D1.nil) hne)) (λ_=>.(Ib9 .(Tr.cmp .(Ev.call .(Iad 7 F.g_law_rate) (hk) (Evs.cons .(Iaa .(Ia0 2) .(Ia1) (by exact Lv.loc hL) (by exact hix) (by exact hz)) .(Evs.nil)) EvK.nil (c1)) .(Ev.call .(Iad 7 F.g_law_rate) (hk) (Evs.cons .(Ia0 3) .(Evs.nil)) EvK.nil (c2)) .(Op2.le)))) (λ_=>rfl)))
    by_cases hd:rat g h 12252240 cur<=rat g h 12252240 B
    . obtain ⟨cur',row',j1,j2⟩:=qia hY T row (cur ++ B) (e1 ▸ hN) (λq=>hc (List.append_eq_nil_iff.mp q).1) λA hA=>hr A (Ak _ hA)
      refine ⟨cur',row',by rw[qfx,if_pos hd];exact j1,λcd fr=>WhileC.next (z1:=σ ++ [.lst (qax g h (B::row))]) (m1:=blM node pv σ.length (qdm g h (cur ++ B))) (z2:=σ ++ [.lst (qax g h row)]) (Iab (ht cd fr) ?_) ?_ (j2 cd fr)⟩
      . rw[Eo];exact decide_eq_true (by simp_all)
      . have hp:=Ian (Idk (W:=W) (Y:=Y) (k:=k+1) (fr:=fr) hL hY (by rw[Ah,AB];lia)) rfl (show _=σ ++ [AObj.lst (qax g h row)] by simp);have ev:AV.tup [.int (tot g cur+tot g B),.int (tot h cur+tot h B),.lst (qaa cur ++ qaa B)]=qdm g h (cur ++ B):=by
          rw[qdm,qdb,qdb,qaa,qaa,qaa,AT]
        have hbl:(qaa cur).length+(qaa B).length<=Ai:=by
          have:=qea (hN.sub (e1 ▸ BO (cur ++ B) _)).1 (hN.sub (e1 ▸ BO (cur ++ B) _)).2;rw[An] at this;rw[Ah,Ah,AB];lia
        have hpl:=qay (g:=g) (h:=h) B;have hpl2:=qay (g:=g) (h:=h) (cur ++ B);refine Exs.post (m2:=((blM node pv σ.length (qdm g h cur)).set 5 (ER (qdm g h B))).set 3 (ER (qdm g h (cur ++ B)))) ?_ (by with_unfolding_all exact Ia9 240);show Exs _ _ _ _ _ (_::_) _ _ _;exact .(Exs.cons .(Ia4 .(Iaj .(Ia0 2) (Ie3 (Lv.loc hL)) .(Kept.builtin) (Evs.cons .(Ia1) .(Evs.nil)) (by with_unfolding_all exact (hp))) .(Ia3 5 (hp:=(by assumption)))) .(Exs.cons .(Ia4 .(Iag .(Ev.tuple (Evs.cons .(Ia2 .(Iae .(Ia0 3) .(Ia1) .(⟨_,rfl,rfl⟩)) .(Iae .(Ia0 5) .(Ia1) .(⟨_,rfl,rfl⟩)) .(Op2.add)) .((Evs.cons .(Ia2 .(Iae .(Ia0 3) .(Ia1) .(⟨_,rfl,rfl⟩)) .(Iae .(Ia0 5) .(Ia1) .(⟨_,rfl,rfl⟩)) .(Op2.add)) .((Evs.cons .(Ia2 .(Iae .(Ia0 3) .(Ia1) .(⟨_,rfl,rfl⟩)) .(Iae .(Ia0 5) .(Ia1) .(⟨_,rfl,rfl⟩)) (Iba Lv.fz Lv.fz hbl)) .(Evs.nil))))))) (ev)) .(Ia3 3 (hp:=(by assumption)))) .(Exs.nil)))
    . refine ⟨cur,B::row,by rw[qfx,if_neg hd],λcd fr=>Ib1 (Iab (ht cd fr) ?_) Exs.nil⟩;rw[Eo];exact decide_eq_false (by simp_all)
end
end
section
theorem qmb (w:Nat->Int)(v:Nat):tot w [v]=w v:=by rw[qbc];exact FD _
theorem qxh (odd:Bool)(d e:Int):qbr (qiv odd) (qjt odd d e) ("g":Hv)=ER (.int d):=by cases odd <;> kernel_rfl
theorem qxg (odd:Bool)(d e:Int):qbr (qiv odd) (qjt odd d e) ("p":Hv)=ER (.int e):=by cases odd <;> kernel_rfl
section
variable (F:Fac W) {pv:AV}
noncomputable abbrev rwA (c:Nat->Int) (row:List (List Nat)):AV:=.lst (qax (dI c) (eI c) row)
noncomputable abbrev bkC (c:Nat->Int) (lf:Bool) (f v:Nat):List (List Nat):=bkF (qaw c) (dI c) (eI c) lf f v
noncomputable abbrev qse (c:Nat->Int) (lf:Bool) (row bs:List (List Nat)):List (List Nat):=qee (pB (dI c) (eI c) lf) row bs
include F in
theorem qpe {f v:Nat}{head:AV}(hv:v<6)(hf:6<=v+(f+1))(D:DocS c n σ)(P:qvk W lf (dI c) (eI c) pv)(hY:Y σ.length)(IH:∀u,u<6->6<=u+f->∀(fr:List HA) (σ:List AObj),DocS c n σ->Calls W Y (k+f+5) fr σ (.glob (.ref A20)) [.loc (n+7+5*u+2),pv] [] [] (rwA c (bkC c lf f u)) σ):
    ∀(r pre:List Nat) (row:List (List Nat)),qec (qaw c) 6 v=pre ++ r->Srt (dI c) (eI c) row->(∀B∈row,Bk (dI c) (eI c) B)->(∀B∈r.flatMap (bkC c lf f),Bk (dI c) (eI c) B)->row.length+(r.flatMap (bkC c lf f)).length<=100->
      ForC ⟨W,Y,nm20.1,cd⟩ (k+f+5) fr ta20.1 bo20.1 [] (.seq (.loc (n+7+5*v+2+1)) (qgd c n 6 v)) pre.length (blM (.loc (n+7+5*v+2)) pv σ.length head) (σ ++ [.lst (qax (dI c) (eI c) row)]) .next (blM (.loc (n+7+5*v+2)) pv σ.length head) (σ ++ [.lst (qax (dI c) (eI c) (qse c lf row (r.flatMap (bkC c lf f))))]):=by
  intro r;induction r with
  | nil=>
    intro pre row hL _ _ _ _;exact ForC.done (Lv.loc (qa6 (D.inn v hv))) (by show (qgd c n 6 v).length=_;rw[qgd,Ah,hL,AO]) Exs.nil
  | cons u r ih=>
    intro pre row hL hs hb hr hz;rw[BH] at hr hz;have hu:=t6.kid hf (hL ▸ AY pre Ac);have hput:=qoz F (W:=W) (Y:=Y) (cd:=cd) (k:=k+f+2) (fr:=fr) (σ:=σ) (lf:=lf) (pv:=pv) (node:=.loc (n+7+5*v+2)) (head:=head) P rfl hY (x:=n+7+5*u+2) (L:=bkC c lf f u) (bkC c lf f u) [] row rfl hs hb (λB hB=>hr B (Bf _ hB)) (by rw[An] at hz;omega);have hnext:=ih (pre ++ [u]) (qse c lf row (bkC c lf f u)) (by rw[hL,AF];rfl) (qkx _ hs) (λB hB=>by
      rcases BZ.mp ((qdi _ (bkC c lf f u) row).mem_iff.mp hB) with q | q
      . exact hr B (Bf _ q)
      . exact hb B q) (λB hB=>hr B (AY _ hB)) (by rw[qpl];rw[An] at hz;omega)
    rw[An,Ba] at hnext;have e:qse c lf (qse c lf row (bkC c lf f u)) (r.flatMap (bkC c lf f))=qse c lf row ((u::r).flatMap (bkC c lf f)):=by rw[BH];exact (qpm _ row _ _).symm
    rw[e] at hnext;have hc:=IH u hu.1 hu.2 fr (σ ++ [.lst (qax (dI c) (eI c) row)]) D.app;have hk:=(F.f20 .none .none).kept;refine ForC.next (m1:=(blM (.loc (n+7+5*v+2)) pv σ.length head).set 4 (ER (.loc (n+7+5*u+2)))) (z1:=σ ++ [.lst (qax (dI c) (eI c) row)]) (m2:=blM (.loc (n+7+5*v+2)) pv σ.length head) (v:=.loc (n+7+5*u+2)) (Lv.loc (qa6 (D.inn v hv))) rfl (by show (qgd c n 6 v)[_]?=_;rw[qgd,Ao,hL,BX (Aq _),GK];rfl) nofun ?_ ?_ hnext
    . show As _ _ _ _ _ (.Name _ _) _ _ _;exact .(Ia3 4)
    . refine Exs.post (m2:=(blM (.loc (n+7+5*v+2)) pv σ.length head).set 4 (ER (.loc (n+7+5*u+2)))) ?_ (Weak.set rfl);show Exs _ _ _ _ _ (_::_) _ _ _;exact .(Exs.cons .(Ib2 .(ItE.list .(Ev.call .(Iad 6 F.g_law_blocks) (hk) (Evs.cons .(Ia0 4) .((Evs.cons .(Ia0 1) .(Evs.nil)))) EvK.nil (hc)) .(Lv.fz)) (by with_unfolding_all exact ForC.pre hput (by exact Weak.refl))) .(Exs.nil))
include F in
theorem qis (P:qvk W lf (dI c) (eI c) pv):∀(f v:Nat),v<6->6<=v+f->∀(Y:Nat->Prop) (fr:List HA) (σ:List AObj),DocS c n σ->Calls W Y (k+f+5) fr σ (.glob (.ref A20)) [.loc (n+7+5*v+2),pv] [] [] (rwA c (bkC c lf f v)) σ:=by
  intro f;induction f with
  | zero=>intro v h h';exact absurd h (A9.mpr h')
  | succ f IH=>
    intro v hv hf Y fr σ D;have hN:N6 ([v] ++ (qse c lf [] ((qec (qaw c) 6 v).flatMap (bkC c lf f))).flatten):=by
      have q:=(t6 (c:=c)).n6 (lf:=lf) hv hf;rwa[bkF,qk2,qfw] at q
    have hNe:∀B∈qse c lf [] ((qec (qaw c) 6 v).flatMap (bkC c lf f)),B≠[]:=λB hB=>(t6 (c:=c)).kidB (lf:=lf) hf B (by
      have:=(qdi _ _ _).mem_iff.mp hB;rwa[AO] at this)
    have hNk:=(t6 (c:=c)).kids (lf:=lf) hv hf;have hbk:∀B∈(qec (qaw c) 6 v).flatMap (bkC c lf f),Bk (dI c) (eI c) B:=λB hB=>t6.bk ((hNk.sub (List.sublist_cons_self v _)).mem hB) ((t6 (c:=c)).kidB (lf:=lf) hf B hB)
    have hlen:=(hNk.sub (List.sublist_cons_self v _)).len ((t6 (c:=c)).kidB (lf:=lf) hf);obtain ⟨cur',row',j1,j2⟩:=qia F (W:=W) (Y:=λm=>Y m\/σ.length<=m) (k:=k+f+4) (σ:=σ) (pv:=pv) (node:=.loc (n+7+5*v+2)) (.inr (Aq _)) (λB q1 q2=>(t6 (c:=c)).bk q1 q2) _ [v] hN nofun hNe;have hbf:bkC c lf (f+1) v=cur'::row':=j1;obtain ⟨a,el⟩:=D.els v hv;have at1:=D.att v hv;have in1:=D.inn v hv;have eh:AV.tup [.int (dI c v),.int (eI c v),.lst [.int (v:Nat)]]=qdm (dI c) (eI c) [v]:=by rw[qdm,qmb,qmb];rfl
    refine Ibw (τ:=[.lst (qax (dI c) (eI c) row')]) (F.f20 (.loc (n+7+5*v+2)) pv) (m':=[]) (fl:=.ret (rwA c (cur'::row'))) (λcd env _=>?_) (λ_ _=>?_)
    . have hkid:=qpe F (W:=W) (Y:=λm=>Y m\/σ.length<=m) (cd:=cd) (k:=k) (fr:=env::fr) (head:=qdm (dI c) (eI c) [v]) hv hf D P (.inr (Aq _)) (λu h1 h2 fr σ D=>IH u h1 h2 _ fr σ D) (qec (qaw c) 6 v) [] [] rfl .nil nofun hbk (by rw[Dk,GE];exact Af hlen (by decide));have j2:=j2 cd (env::fr);have ea:(σ ++ [AObj.lst []])[n+7+5*v+2]?=_:=qa6 el;have eb:(σ ++ [AObj.lst []])[n+7+5*v+1]?=_:=qa6 at1;have ei:(σ ++ [AObj.lst []])[n+7+5*v+2+1]?=_:=qa6 in1;have g1:=qxh (qkl c v) (dI c v) (eI c v);have g2:=qxg (qkl c v) (dI c v) (eI c v);have ev:AV.tup [.loc σ.length,.tup [.int (dI c v),.int (eI c v),.lst [.int (v:Nat)]]]=.tup [.loc σ.length,qdm (dI c) (eI c) [v]]:=by rw[eh]
      have hpl:=qay (g:=dI c) (h:=eI c) [v];have hr:Lv (σ ++ [AObj.lst (qax (dI c) (eI c) row')]) (.loc σ.length) (qax (dI c) (eI c) row'):=Lv.loc (by simp);have hzr:[qdm (dI c) (eI c) cur'].length+(qax (dI c) (eI c) row').length<=Ai:=by
        have hN:=(t6 (c:=c)).n6 (lf:=lf) hv hf;have hne:=(t6 (c:=c)).ne (lf:=lf) hv hf;rw[show bkF (qaw c) (dI c) (eI c) lf (f+1) v=cur'::row' from hbf] at hN hne;have:=hN.len hne;rw[Bu] at this;rw[Ah,Ba,AB];lia
      refine Exs.f (Iaf (m2:=blM (.loc (n+7+5*v+2)) pv σ.length (qdm (dI c) (eI c) cur')) ?_);show Exs _ _ _ _ _ (_::_) _ _ _;exact .(Exs.cons .(Ic3 (i:=2) (j:=3) .(Iag .(Ev.tuple (Evs.cons .(Ias Evs.nil) .((Evs.cons .(Ev.tuple (Evs.cons .(Idv .(Iay .(Ia0 0) (by exact ea) Uu qc2) .(Ia7) eb g1) .((Evs.cons .(Idv .(Iay .(Ia0 0) (by exact ea) Uu qc2) .(Ia7) eb g2) .((Evs.cons .(Ev.list (Evs.cons .(Iay .(Ia0 0) (by exact ea) Uu qkb) .(Evs.nil))) .(Evs.nil))))))) .(Evs.nil))))) (ev)) Uu Uu (by decide) Uu (by assumption)) .(Exs.cons .(Ib2 .(ItE.list .(Iay .(Ia0 0) (by exact ea) Uu qe3) (Lv.loc ei)) (by with_unfolding_all exact ForC.pre hkid (by exact Weak.refl))) .(Exs.cons .(Iam (by with_unfolding_all exact WhileC.pre j2 (by exact Weak.refl))) .(Exs.ret .(Iai .(Ia2 .(Ev.list (Evs.cons .(Ia0 3) .(Evs.nil))) .(Ia0 2) (Iba Lv.fz hr hzr)))))))
    . show _=frz _ _ (rwA c (cur'::row'));rw[hbf];exact (qbq (rwA c (cur'::row')) (qjz (cur'::row'))).symm
end
end
section
theorem qsu (x:Int):EW (EW x)=x:=by unfold EW;lia
theorem qgu (a b:Nat):AN (a:Nat) (b:Nat)=((a &&& b:Nat):Int):=by
  unfold AN;rw[decide_eq_true (BA a),decide_eq_true (BA b)];rfl
theorem qg9 (a b:Nat):Du (a:Nat) (b:Nat)=((a ||| b:Nat):Int):=by
  have h:∀n:Nat,decide (0<=EW (n:Int))=Hr:=λn=>decide_eq_false (by unfold EW;lia)
  unfold Du AN;rw[h,h];simp only[qsu];rfl
theorem ql2 (a i:Nat):(AN ((a:Int).fdiv (2 ^ ((i:Nat):Int).toNat)) 1==1)=a.testBit i:=by
  have e:(a:Int).fdiv (2 ^ ((i:Nat):Int).toNat)=((a / 2 ^ i:Nat):Int):=by
    rw[show ((i:Nat):Int).toNat=i from rfl,show ((2:Int) ^ i)=((2 ^ i:Nat):Int) by rw[Int.natCast_pow];rfl,Dc _ (BA _)];rfl
  rw[e,bitAnd_m1,Nat.testBit_eq_decide_div_mod_eq,B0,beq_iff_eq,decide_eq_true_eq];omega
theorem qn1 (k:Nat):(1:Int)*2 ^ ((k:Nat):Int).toNat=((2 ^ k:Nat):Int):=by rw[Int.one_mul,show ((k:Nat):Int).toNat=k from rfl,Int.natCast_pow];rfl
theorem qqy:∀m:Fin 64,∀k:Fin 6,((m ||| 2 ^ (k:Nat):Nat):Int) - ((m &&& 2 ^ (k:Nat):Nat):Int)=((m ^^^ 2 ^ (k:Nat):Nat):Int):=by decide +kernel
theorem qqz {m:Nat}(hm:m<64)(hk:k<6):Da (m:Nat) ((1:Int)*2 ^ ((k:Nat):Int).toNat)=((qcq m k:Nat):Int):=by
  rw[qn1,Da,qg9,qgu];exact qqy ⟨m,hm⟩ ⟨k,hk⟩
theorem atN {f:Nat->AV}{x:Nat}:∀{ks:List Nat},(x∈ks->qbr (ks.map λm=>((m:Nat):Int)) (ks.map f) ((x:Nat):Int)=ER (f x))/\(x∉ks->qbr (ks.map λm=>((m:Nat):Int)) (ks.map f) ((x:Nat):Int)=Dt)
  | []=>⟨λh=>absurd h BN,λ_=>rfl⟩
  | a::ks=>by
    have hq0:(x∈ks->qbr (ks.map λm=>((m:Nat):Int)) (ks.map f) ((x:Nat):Int)=ER (f x))/\(x∉ks->qbr (ks.map λm=>((m:Nat):Int)) (ks.map f) ((x:Nat):Int)=Dt):=atN;obtain ⟨h1,h2⟩:=hq0;have e:qbr ((a::ks).map λm=>((m:Nat):Int)) ((a::ks).map f) ((x:Nat):Int)=if ((a:Nat):Int)=x then ER (f a) else qbr (ks.map λm=>((m:Nat):Int)) (ks.map f) ((x:Nat):Int):=by
      unfold qbr;rw[Bp,Bp,Bl,Fw];by_cases h:((a:Nat):Int)=x
      . rw[if_pos h];simp only[decide_eq_true h];rfl
      . rw[if_neg h];simp only[decide_eq_false h]
    rw[e];by_cases h:((a:Nat):Int)=x
    . rw[if_pos h];obtain rfl:=Gh h;exact ⟨λ_=>rfl,λq=>absurd Ac q⟩
    . rw[if_neg h];have ne:x≠a:=λq=>h (congrArg Nat.cast q.symm)
      exact ⟨λq=>h1 ((Aw.mp q).resolve_left ne),λq=>h2 λz=>q (Ak _ z)⟩
theorem qdn (par:Nat->Nat):∀p,(qc4 par p).length<=2 ^ p
  | 0=>Aq _
  | p+1=>by
    have h1:=qdn par p;have h2:=BQ (λm=>decide (p=0)||m.testBit (par p)) (qc4 par p);rw[qc4,An,Ah,Nat.pow_succ];lia
theorem qj9 (c:Nat->Int)(t:Nat):qoo c t=((qaw c t:Nat):Int):=(FC (CX _ (FK (by decide) (Int.le_max_right _ _)))).symm
section
variable (c:Nat->Int)
noncomputable abbrev stA (m:Nat):AV:=.tup [.int (m:Nat),.int (hrs (dI c) 6 m),.int (hrs (eI c) 6 m)]
noncomputable abbrev stL (p:Nat):List AV:=(qc4 (qaw c) p).map (stA c)
noncomputable abbrev wC (m:Nat):Int:=wM (qaw c) (dI c) (eI c) m
noncomputable abbrev lsO (pre:List Nat):AObj:=.dint (pre.map λm=>((m:Nat):Int)) (pre.map λm=>AV.int (wC c m))
end
noncomputable def seM (c:Nat->Int) (sl ll:Nat):List (Option AV):=[ER (.lst (qab c)),ER (.loc sl),ER (.loc ll),Dt,Dt,Dt,Dt,Dt,Dt,Dt,Dt]
noncomputable def ta21:PSigma (λl=>(qbm (nth bd21.1 1))=l):=⟨_,by conv=>lhs;whnf⟩
noncomputable def bo21:PSigma (λl=>(qb4 (nth bd21.1 1))=l):=⟨_,by conv=>lhs;whnf⟩
noncomputable def ta212:PSigma (λl=>(qbm (nth bd21.1 2))=l):=⟨_,by conv=>lhs;whnf⟩
noncomputable def bo212:PSigma (λl=>(qb4 (nth bd21.1 2))=l):=⟨_,by conv=>lhs;whnf⟩
section
variable (F:Fac W) {sl ll:Nat}
include F in
theorem qmm {p:Nat}(hp:p<6)(hs:σ[sl]?=ER (.lst (stL c p)))(hY:Y sl):
    Exs ⟨W,Y,nm21.1,cd⟩ k fr (((seM c sl ll).set 3 (ER (.int (p:Nat)))).set 4 (ER (qe6 c p))) σ bo21.1 .next (seM c sl ll) (σ.set sl (.lst (stL c (p+1)))):=by
  have hlen:=qdn (qaw c) p;have h64:2 ^ p<=64:=Bq (by decide) (Bm hp);have hz:(qc4 (qaw c) p).length<=2 ^ 20:=Af hlen (Af h64 (by decide));have hsh:(0:Int)<=((qaw c p:Nat):Int):=BA _;have hs1:(0:Int)<=((p:Nat):Int)/\((p:Nat):Int)<=1000000:=by lia
  have hpe:=congrArg AV.int (qj9 c p);have hel:∀m∈qc4 (qaw c) p,AV.tup [.int (Du ((m:Nat):Int) (1*2 ^ ((p:Nat):Int).toNat)),.int (hrs (dI c) 6 m+dI c p),.int (hrs (eI c) 6 m+eI c p)]=stA c (m ||| 2 ^ p):=λm hm=>by
    have:=qdd p m hm;have q1:hrs (dI c) 6 (m ||| 2 ^ p)=hrs (dI c) 6 m+dI c p:=qtg hp this;have q2:hrs (eI c) 6 (m ||| 2 ^ p)=hrs (eI c) 6 m+eI c p:=qtg hp this;rw[qn1,qg9,stA,q1,q2]
  have hlist:(stL c p) ++ (((qc4 (qaw c) p).filter λm:Nat=>(((p:Nat):Int)==0||AN (((m:Nat):Int).fdiv (2 ^ ((qaw c p:Nat):Int).toNat)) 1==1)).map λm=>stA c (m ||| 2 ^ p))=stL c (p+1):=by
    rw[stL,stL,qc4,AT,BL];congr 2
    refine DW λm _=>?_
    rw[ql2];congr 1
    rw[B0,beq_iff_eq,decide_eq_true_iff];simp
  have hl2:(stL c p).length+(((qc4 (qaw c) p).filter λm:Nat=>(((p:Nat):Int)==0||AN (((m:Nat):Int).fdiv (2 ^ ((qaw c p:Nat):Int).toNat)) 1==1)).map λm=>stA c (m ||| 2 ^ p)).length<=1000:=by
    rw[<- An,hlist,Ah];exact Af (qdn (qaw c) (p+1)) (Af (Bq (n:=2) (by decide) (Nat.succ_le_of_lt hp)) (by decide))
  have he:=Ian (Icv (W:=W) (Y:=Y) (k:=k) (fr:=fr) hs (Lv.fz (l:=((qc4 (qaw c) p).filter λm:Nat=>(((p:Nat):Int)==0||AN (((m:Nat):Int).fdiv (2 ^ ((qaw c p:Nat):Int).toNat)) 1==1)).map λm=>stA c (m ||| 2 ^ p))) hY (qa9 (λ_=>rfl) _) hl2) rfl (congrArg (λl=>σ.set sl (.lst l)) hlist);refine Exs.post (m2:=((seM c sl ll).set 3 (ER (.int (p:Nat)))).set 4 (ER (qe6 c p))) ?_ (by with_unfolding_all exact Ia8 (Weak.set rfl) rfl);show Exs _ _ _ _ _ (_::_) _ _ _;exact .(Exs.cons .(Ex.expr .(Iaj .(Ia0 1) (Icy (Lv.loc hs)) .(Kept.builtin) (Evs.cons .(Iao .(ItE.list .(Ia0 1) (Lv.loc hs)) (CompIn.of [Dt,Dt,Dt,Dt,ER 4,ER 3] (by kernel_rfl) (by kernel_rfl)) .(Ibc Uu (qc4 (qaw c) p) (stA c) ((λm:Nat=>(((p:Nat):Int)==0||AN (((m:Nat):Int).fdiv (2 ^ ((qaw c p:Nat):Int).toNat)) 1==1))) ((λm=>stA c (m ||| 2 ^ p))) _ (λx hx=>.(As.tuple .(AsL.cons .(Ia3 1) .(AsL.cons .(Ia3 2) .(AsL.cons .(Ia3 3) .(AsL.nil)))))) (λx hx=>.(Ib3 .(Ibt .(Tr.cmp .(Ia5 5) .(Ia1) .(Ibe)) (λ_=>.(Ib9 .(Tr.cmp .(Ia2 .(Ia2 .(Ia0 1) .(Iag .(Iae .(Ia5 4) .(Ia1) .(⟨_,rfl,rfl⟩)) (hpe)) (Idq hsh)) .(Ia1) .(Op2.and)) .(Ia1) .(Ibe)))) (λ_=>rfl)))) (λx hx hp=>.(Iag .(Ev.tuple (Evs.cons .(Ia2 .(Ia0 1) .(Ia2 .(Ia1) .(Ia5 5) (Ibd hs1.1 hs1.2 (by decide))) .(Ieb)) .((Evs.cons .(Ia2 .(Ia0 2) .(Iae .(Ia5 4) .(Ia1) .(⟨_,rfl,rfl⟩)) .(Op2.add)) .((Evs.cons .(Ia2 .(Ia0 3) .(Iae .(Ia5 4) .(Ia1) .(⟨_,rfl,rfl⟩)) .(Op2.add)) .(Evs.nil))))))) (hel x hx))) .(λ_=>Ia8 (Ia8 (Weak.set Uu) Uu) Uu) (hO:=by with_unfolding_all exact Lv.loc (by assumption)) (hz:=by exact hz))) .(Evs.nil)) (by with_unfolding_all exact (he)))) .(Exs.nil))
end
end
section
section
variable (F:Fac W) {sl ll:Nat}
theorem qkv (m:Nat):0<=hrs (eI c) 6 m/\hrs (eI c) 6 m<=18:=by
  have T:=t6 (c:=c);have h1:sm (eI c) m.testBit (Ae 6)<=tot (eI c) (Ae 6):=qov λk _=>AU (T.h0 k)
  have h2:=qka T.h3 (Ae 6);exact ⟨qj3 λk _=>AU (T.h0 k),CE h1 h2⟩
include F in
theorem qp7 {pre r:List Nat}{m:Nat}(h:qc4 (qaw c) 6=pre ++ m::r)(h0:0<m)(hl:σ[ll]?=ER (lsO c pre))(hY:Y ll):
    Exs ⟨W,Y,nm21.1,cd⟩ k fr ((((seM c sl ll).set 5 (ER (.int (m:Nat)))).set 6 (ER (.int (hrs (dI c) 6 m)))).set 7 (ER (.int (hrs (eI c) 6 m)))) σ bo212.1 .next (seM c sl ll) (σ.set ll (lsO c (pre ++ [m]))):=by
  have T:=t6 (c:=c);have hm:=(qby T.hp 6 m).mp (by rw[h];exact AY _ Ac);have hne:=qqe T.hp hm.1 h0 hm.2;have hw:=qm8 (par:=qaw c) (g:=dI c) (h:=eI c) hm.1 h0;obtain ⟨hmin,hle⟩:=qjd (l:=(qlg (qaw c) 6 m).map λk=>wC c (qcq m k)+dI c k*hrs (eI c) 6 m) (λq=>hne (Eh.mp q));rw[<- hw] at hmin hle;have hop:=qtn T.hp h;have hix:∀x∈Ae 6,(qab c)[x]?=ER (qe6 c x):=λx hx=>qe5 (Au.mp hx)
  have hz6:(qab c).length<=Ai:=by exact (by decide:6<=Ai)
  have h6:(Ae 6).length<=2 ^ 20:=by decide
  have e0:∀x:Nat,(0:Int)+((x:Nat):Int)*1=((x:Nat):Int):=qw5;have hs0:∀x:Nat,(0:Int)<=0+((x:Nat):Int)*1:=λx=>by simp
  have hs1:∀x∈Ae 6,(0:Int)+((x:Nat):Int)*1<=1000000:=λx hx=>by have:=Au.mp hx;lia
  have hx2:∀x∈Ae 6,AV.int (Da ((m:Nat):Int) (1*2 ^ ((0:Int)+((x:Nat):Int)*1).toNat))=.int ((qcq m x:Nat):Int):=λx hx=>by rw[e0,qqz hm.1 (Au.mp hx)]
  have hin:∀x:Nat,decide (qcq m x∈pre)=(qbr (pre.map λm=>((m:Nat):Int)) (pre.map λm=>AV.int (wC c m)) ((qcq m x:Nat):Int)).isSome:=λx=>by
    by_cases q:qcq m x∈pre
    . rw[decide_eq_true q,atN.1 q];rfl
    . rw[decide_eq_false q,atN.2 q];rfl
  have hat:∀x:Nat,(AN (((m:Nat):Int).fdiv (2 ^ ((0:Int)+((x:Nat):Int)*1).toNat)) 1==1&&decide (qcq m x∈pre))=Hq->qbr (pre.map λm=>((m:Nat):Int)) (pre.map λm=>AV.int (wC c m)) ((qcq m x:Nat):Int)=ER (.int (wC c (qcq m x))):=λx q=>atN.1 (of_decide_eq_true (Ay.mp q).2)
  have hmu:∀x:Nat,Fi (dI c x) (hrs (eI c) 6 m):=λx=>qgk (by have:=(qkv (c:=c) m).1;omega) (by have:=(qkv (c:=c) m).2;omega)
  have hL:((Ae 6).filter λx:Nat=>(AN (((m:Nat):Int).fdiv (2 ^ ((0:Int)+((x:Nat):Int)*1).toNat)) 1==1&&decide (qcq m x∈pre)))=qlg (qaw c) 6 m:=by
    rw[hop];exact DW λx _=>by rw[e0,ql2]
  have hLv:Lv σ (.lst (((Ae 6).filter λx:Nat=>(AN (((m:Nat):Int).fdiv (2 ^ ((0:Int)+((x:Nat):Int)*1).toNat)) 1==1&&decide (qcq m x∈pre))).map λx=>AV.int (wC c (qcq m x)+dI c x*hrs (eI c) 6 m))) (qa0 ((qlg (qaw c) 6 m).map λk=>wC c (qcq m k)+dI c k*hrs (eI c) 6 m)):=by
    rw[hL,qa0,BL];exact Lv.fz
  have hnot:((m:Nat):Int)∉pre.map λm=>((m:Nat):Int):=λq=>by
    obtain ⟨x,h1,h2⟩:=Bg.mp q;obtain rfl:=Gh h2;exact C0 _ ((qkh T.hp h).mp h1).1
  have hzk:(pre.map λm=>((m:Nat):Int)).length<=Ai:=by
    have:=qdn (qaw c) 6;rw[h,An] at this;rw[Ah,AB];lia
  have eS:σ.set ll (.dint (qfq (pre.map λm=>((m:Nat):Int)) (pre.map λm=>AV.int (wC c m)) ((m:Nat):Int) (.int (wC c m))).1 (qfq (pre.map λm=>((m:Nat):Int)) (pre.map λm=>AV.int (wC c m)) ((m:Nat):Int) (.int (wC c m))).2)=σ.set ll (lsO c (pre ++ [m])):=by
    rw[qfq,if_neg hnot,lsO,AT,AT];rfl
  refine Exs.post (m2:=(((seM c sl ll).set 5 (ER (.int (m:Nat)))).set 6 (ER (.int (hrs (dI c) 6 m)))).set 7 (ER (.int (hrs (eI c) 6 m)))) ?_ (by with_unfolding_all exact Ia8 (Ia8 (Weak.set rfl) rfl) rfl);show Exs _ _ _ _ _ (_::_) _ _ _;exact .(Exs.cons .(Ia4 .(Ev.call .(Iah 9 F.b_min) .(Kept.builtin) (Evs.cons .(Iao .(ItE.call .(Iah 10 F.b_range) .(Kept.type) (Evs.cons .(Ia1) .(Evs.nil)) .(Iaz (by decide))) (CompIn.of [Dt,Dt,ER 7,ER 2,ER 5,ER 0] (by kernel_rfl) (by kernel_rfl)) .(Ibc Uu (Ae 6) ((λx:Nat=>AV.int (0+(x:Nat)*1))) ((λx:Nat=>(AN (((m:Nat):Int).fdiv (2 ^ ((0:Int)+((x:Nat):Int)*1).toNat)) 1==1&&decide (qcq m x∈pre)))) ((λx=>AV.int (wC c (qcq m x)+dI c x*hrs (eI c) 6 m))) _ (λx hx=>.(Ia3 1)) (λx hx=>.(Ib3 .(Ic0 .(Tr.cmp .(Ia2 .(Ia2 .(Ia5 4) .(Ia0 1) (Idq (hs0 x))) .(Ia1) .(Op2.and)) .(Ia1) .(Ibe)) (λ_=>.(Ib9 .(Tr.cmp .(Ia2 .(Ia5 4) .(Ia2 .(Ia1) .(Ia0 1) (Ibd (hs0 x) (hs1 x hx) (by decide))) (Ibj Idp (hx2 x hx))) .(Ia5 3) (Idr hl (hin x))))) (λ_=>rfl)))) (λx hx hp=>.(Ia2 .(Idw .(Ia5 3) .(Ia2 .(Ia5 4) .(Ia2 .(Ia1) .(Ia0 1) (Ibd (hs0 x) (hs1 x hx) (by decide))) (Ibj Idp (hx2 x hx))) hl (hat x hp)) .(Ia2 .(Iae .(Iaa .(Ia5 5) .(Ia0 1) .(Lv.fz) (by exact qbi (e0 x) (hix x hx)) (by exact hz6)) .(Ia1) .(⟨_,rfl,rfl⟩)) .(Ia5 2) (Ibu (hmu x))) .(Op2.add))) .(λ_=>Weak.set Uu) (hz:=by exact h6))) .(Evs.nil)) EvK.nil (Idy hLv hmin hle)) .(Ibr .(Ieh .(Ia5 2) .(Ia5 5) hl hY rfl hzk) eS)) .(Exs.nil))
include F in
theorem qmn (hY:Y sl):∀(j p:Nat) (σ:List AObj),p+j=6->σ[sl]?=ER (.lst (stL c p))->
    ForC ⟨W,Y,nm21.1,cd⟩ k fr ta21.1 bo21.1 [] (.enum (.lst (qab c)) (qab c)) p (seM c sl ll) σ .next (seM c sl ll) (σ.set sl (.lst (stL c 6))):=by
  intro j;induction j with
  | zero=>
    intro p σ hp hs;obtain rfl:p=6:=hp;rw[qfc hs];exact ForC.done Lv.fz rfl Exs.nil
  | succ j ih=>
    intro p σ hp hs;have hp6:p<6:=by lia
    have h:=ih (p+1) (σ.set sl (.lst (stL c (p+1)))) (by lia) (qbv hs);rw[Dr] at h;refine ForC.next (m1:=((seM c sl ll).set 3 (ER (.int (p:Nat)))).set 4 (ER (qe6 c p))) (z1:=σ) Lv.fz rfl (v:=.tup [.int (p:Nat),qe6 c p]) ?_ (λ_=>⟨_,_,_,rfl⟩) ?_ (qmm F hp6 hs hY) h
    . show ((qab c).zipIdx.map λp=>AV.tup [.int p.2,p.1])[p]?=_;rw[Ao,Fk,qe5 hp6];simp
    . show As _ _ _ _ _ (.Tuple _ _ _) _ _ _;exact .(As.tuple .(AsL.cons .(Ibz 3) .(AsL.cons .(Ibz 4) .(AsL.nil))))
include F in
theorem qp8 (hY:Y ll){tl:List Nat}(h0:qc4 (qaw c) 6=0::tl):∀(r pre:List Nat) (σ:List AObj),tl=pre ++ r->σ[ll]?=ER (lsO c (0::pre))->
    ForC ⟨W,Y,nm21.1,cd⟩ k fr ta212.1 bo212.1 [] (.seq (.lst (tl.map (stA c))) (tl.map (stA c))) pre.length (seM c sl ll) σ .next (seM c sl ll) (σ.set ll (lsO c (0::tl))):=by
  intro r;induction r with
  | nil=>
    intro pre σ hp hl;rw[AO] at hp;subst hp;rw[qfc hl];exact ForC.done Lv.fz (Ah _) Exs.nil
  | cons m r ih=>
    intro pre σ hp hl;have hm:qc4 (qaw c) 6=(0::pre) ++ m::r:=by rw[h0,hp];rfl
    have hm0:0<m:=by
      have:=qfd (par:=qaw c) 6;rw[hm] at this;exact (BU.mp this).2.2 0 Ac m Ac
    have h:=ih (pre ++ [m]) (σ.set ll (lsO c (0::(pre ++ [m])))) (by rw[hp,AF];rfl) (qbv hl);rw[Dr,An,Ba] at h;refine ForC.next (m1:=(((seM c sl ll).set 5 (ER (.int (m:Nat)))).set 6 (ER (.int (hrs (dI c) 6 m)))).set 7 (ER (.int (hrs (eI c) 6 m)))) (z1:=σ) Lv.fz (qa9 (λ_=>rfl) _) (v:=stA c m) (by show (tl.map (stA c))[_]?=_;rw[Ao,hp,BX (Aq _),GK];rfl) nofun ?_ (qp7 F hm hm0 hl hY) h;show As _ _ _ _ _ (.Tuple _ _ _) _ _ _;exact .(As.tuple .(AsL.cons .(Ibz 5) .(AsL.cons .(Ia3 6) .(AsL.cons .(Ibz 7) .(AsL.nil)))))
include F in
theorem qlc:Calls W Y (k+1) fr σ (.glob (.ref A21)) [.lst (qab c)] [] [] (.tup [.lst (stL c 6),.int (wC c 63)]) σ:=by
  obtain ⟨tl,htl⟩:=qhp (par:=qaw c) 6;have hgen:∃S6 w63,stL c 6=S6/\wC c 63=w63:=⟨_,_,rfl,rfl⟩
  obtain ⟨S6,w63,h6,hw⟩:=hgen;have hpl6:S6.length<=Ai:=by
    rw[<- h6,Ah,AB];exact Af (qdn _ 6) (by decide)
  have hcl6:qac σ.length S6=Hq:=by rw[<- h6];exact qc8 λv hv=>by obtain ⟨i,_,rfl⟩:=Bg.mp hv;rfl
  have es:AV.lst (qbo S6 (ER 1) Dt Dt)=.lst (tl.map (stA c)):=by
    rw[<- h6,stL,htl];exact congrArg AV.lst (qcp _ 1)
  have h63:qbr ((0::tl).map λm=>((m:Nat):Int)) ((0::tl).map λm=>AV.int (wC c m)) (63:Int)=ER (.int w63):=by
    rw[<- hw];exact (atN (x:=63)).1 (htl ▸ qpj (t6 (c:=c)).hp)
  rw[h6,hw];refine Ibw (τ:=[.lst (S6),lsO c (0::tl)]) (F.f21 (.lst (qab c)) rfl) (m':=[]) (fl:=.ret (.tup [.loc σ.length,.int (w63)])) (λcd env _=>?_) (λ_ _=>?_)
  . have hY1:(λm=>Y m\/σ.length<=m) σ.length:=.inr (Aq _);have hY2:(λm=>Y m\/σ.length<=m) (σ.length+1):=.inr (Dn _);have g0:(σ ++ [AObj.lst (stL c 0),lsO c [0]])[σ.length]?=ER (.lst (stL c 0)):=qal (j:=0) rfl;have h1:=qmn F (W:=W) (Y:=λm=>Y m\/σ.length<=m) (cd:=cd) (k:=k) (fr:=env::fr) (c:=c) (sl:=σ.length) (ll:=σ.length+1) hY1 6 0 _ rfl g0;rw[h6] at h1;have e1:(σ ++ [AObj.lst (stL c 0),lsO c [0]]).set σ.length (.lst (S6))=σ ++ [.lst (S6),lsO c [0]]:=qcw (j:=0) rfl;rw[e1] at h1;have g1:(σ ++ [AObj.lst (S6),lsO c [0]])[σ.length+1]?=ER (lsO c [0]):=qal (j:=1) rfl;have h2:=qp8 F (W:=W) (Y:=λm=>Y m\/σ.length<=m) (cd:=cd) (k:=k) (fr:=env::fr) (c:=c) (sl:=σ.length) (ll:=σ.length+1) hY2 htl tl [] _ rfl g1;have e2:(σ ++ [AObj.lst (S6),lsO c [0]]).set (σ.length+1) (lsO c (0::tl))=σ ++ [.lst (S6),lsO c (0::tl)]:=qcw (j:=1) rfl;rw[e2] at h2;have gs:Lv (σ ++ [AObj.lst (S6),lsO c [0]]) (.loc σ.length) (S6):=Lv.loc (qal (j:=0) rfl);have hz:=hpl6;have g3:(σ ++ [AObj.lst (S6),lsO c (0::tl)])[σ.length+1]?=ER (lsO c (0::tl)):=qal (j:=1) rfl;have ez:σ ++ [AObj.lst [.tup [.int 0,.int 0,.int 0]]] ++ [.dint [0] [.int 0]]=σ ++ [AObj.lst (stL c 0),lsO c [0]]:=by rw[AF];rfl
    have ev:AV.tup [.loc σ.length,.loc (σ ++ [AObj.lst [.tup [.int 0,.int 0,.int 0]]]).length]=.tup [.loc σ.length,.loc (σ.length+1)]:=by rw[An];rfl
    with_reducible refine Exs.f (Iaf (m2:=seM c σ.length (σ.length+1)) ?_)
    show Exs _ _ _ _ _ (_::_) _ _ _;exact .(Exs.cons .(Ic3 (i:=1) (j:=2) .(Ic4 .(Ev.tuple (Evs.cons .(Ias (Evs.cons .(Ev.tuple (Evs.cons .(Ia1) .((Evs.cons .(Ia1) .((Evs.cons .(Ia1) .(Evs.nil))))))) .(Evs.nil))) .((Evs.cons .(Ie8 [0] (by with_unfolding_all exact EvP.cons .(Ia1) .(Ia1) (by with_unfolding_all exact EvP.nil)) Uu (by decide)) .(Evs.nil))))) ez ev) Uu Uu (by decide) Uu Uu) .(Exs.cons .(Ib2 .(ItE.call .(Iah 8 F.b_enumerate) .(Kept.type) (Evs.cons .(Ia5 0) .(Evs.nil)) .(CallIt.enum (Lv.fz))) (by with_unfolding_all exact ForC.pre h1 (by exact Weak.refl))) .(Exs.cons .(Ib2 .(ItE.list .(Iag .(Iav .(Ia0 1) (Iau .(Ia1)) EvO.none EvO.none (by exact gs) (by simp) (by assumption)) es) .(Lv.fz)) (by with_unfolding_all exact ForC.pre h2 (by exact Weak.refl))) .(Exs.ret .(Iai .(Ev.tuple (Evs.cons .(Ia0 1) .((Evs.cons .(Idw .(Ia5 2) .(Ia1) g3 h63) .(Evs.nil))))))))))
  . show _=AV.tup [frz _ _ (.loc σ.length),.int (w63)];have:(σ ++ [AObj.lst (S6),lsO c (0::tl)])[σ.length]?=ER (.lst (S6)):=qal (j:=0) rfl;have e:frz σ.length (σ ++ [AObj.lst (S6),lsO c (0::tl)]) (.loc σ.length)=.lst (S6):=by
      show (if σ.length<σ.length then AV.loc σ.length else match (σ ++ [AObj.lst (S6),lsO c (0::tl)])[σ.length]? with | some (.lst l)=>if qac σ.length l then .lst l else .any | _=>.any)=_;rw[if_neg (C0 _),this];exact if_pos hcl6
    rw[e]
end
end
section
theorem qgs (g h:Nat->Int):∀(l:List Nat) (t:Int) (i:Nat) (pre:List Nat),pre.length=i->tot h pre=t->((l.zipIdx i).map λp=>g p.1*tot h ((pre ++ l).take (p.2+1))).sum=qbu g h t l
  | [],_,_,_,_,_=>rfl
  | k::l,t,i,pre,hi,ht=>by
    have h1:(pre ++ k::l).take (i+1)=pre ++ [k]:=by
      rw[show pre ++ k::l=(pre ++ [k]) ++ l by rw[AF];rfl];exact List.take_left' (by rw[An,Ba,hi])
    have h2:tot h (pre ++ [k])=t+h k:=by rw[qdb,qbc,ht];exact congrArg (t + ·) (FD _)
    have ih:=qgs g h l (t+h k) (i+1) (pre ++ [k]) (by rw[An,Ba,hi]) h2;rw[AF] at ih;rw[List.zipIdx_cons,Bp,Ce,qbu,h1,h2];exact congrArg (g k*(t+h k) + ·) ih
section
variable (F:Fac W)
theorem lvZ {X:Type}(l:List X)(f:X->Int):Lv σ (.lst (l.map λx=>AV.int (f x))) (qa0 (l.map f)):=by rw[qa0,BL];exact Lv.fz
include F in
theorem qix {P:List Nat}(h6:∀x∈P,x<6)(hl:P.length<=6):Calls W Y (k+1) fr σ (.glob (.ref A22)) [.lst (qaa P),.lst (qab c)] [] [] (.int (qbu (dI c) (eI c) 0 P)) σ:=by
  have T:=t6 (c:=c);have hz6:(qab c).length<=Ai:=by exact (by decide:6<=Ai)
  have hxs:(AIt.enum (.lst (qaa P)) (qaa P)).items=P.zipIdx.map λp:Nat×Nat=>AV.tup [.int (p.2:Nat),.int (p.1:Nat)]:=by
    show ((qaa P).zipIdx.map λp=>AV.tup [.int p.2,p.1])=_;rw[qaa,List.zipIdx_map,BL];rfl
  have hm:∀p∈P.zipIdx,p.1<6/\p.2<P.length:=λp hp=>by
    obtain ⟨a,i⟩:=p;have:=List.mem_zipIdx_iff_getElem?.mp hp;exact ⟨h6 a (Av this),(Ar.mp this).1⟩
  have hpx:∀x,x<6->(qab c)[x]?=ER (qe6 c x):=λx hx=>qe5 hx
  have hsl:∀p:Nat×Nat,AV.lst (qbo (qaa P) Dt (ER ((p.2:Nat)+1)) Dt)=.lst (qaa (P.take (p.2+1))):=λp=>by
    rw[show (((p.2:Nat):Int)+1)=((p.2+1:Nat):Int) from rfl,qff,qco,qaa,qaa,Ff]
  have hzp:(qaa P).length<=Ai:=by rw[Ah,AB];lia
  have hzt:∀p:Nat×Nat,(P.take (p.2+1)).length<=2 ^ 20:=λp=>by
    have:(P.take (p.2+1)).length<=P.length:=by rw[CD];exact Gn _ _
    lia
  have hzx:P.zipIdx.length<=2 ^ 20:=by rw[List.length_zipIdx];lia
  have h6t:∀(p:Nat×Nat) (x:Nat),x∈P.take (p.2+1)->x<6:=λp x hx=>h6 x (List.mem_of_mem_take hx)
  have hmu:∀p:Nat×Nat,Fi (dI c p.1) (((P.take (p.2+1)).map (eI c)).sum):=λp=>by
    have h1:=qka T.h3 (P.take (p.2+1));have h2:=List.length_take_le (p.2+1) P;have h3:0<=tot (eI c) (P.take (p.2+1)):=by
      rw[<- qdu (S:=λ_=>Hq) λ_ _=>rfl];exact qj3 λk _=>AU (T.h0 k)
    have h4:(P.take (p.2+1)).length<=P.length:=by rw[CD];exact Gn _ _
    exact qgk (by show _<tot (eI c) _;omega) (by show tot (eI c) _<_;omega)
  have hco:AV.int ((P.zipIdx.map λp:Nat×Nat=>dI c p.1*((P.take (p.2+1)).map (eI c)).sum).sum)=.int (qbu (dI c) (eI c) 0 P):=congrArg AV.int (qgs (dI c) (eI c) P 0 0 [] rfl rfl);refine Iaq (F.f22 (.lst (qaa P)) (.lst (qab c)) (qeu _) rfl) (m':=[]) (fl:=.ret (.int (qbu (dI c) (eI c) 0 P))) (λcd env _=>?_) rfl rfl;with_reducible refine Exs.f (Iaf (m2:=[ER (.lst (qaa P)),ER (.lst (qab c)),Dt,Dt]) ?_)
  show Exs _ _ _ _ _ (_::_) _ _ _;exact .(Exs.ret .(Iai .(Iag .(Ev.call .(Iah 2 F.b_sum) .(Kept.builtin) (Evs.cons .(Iao .(ItE.call .(Iah 3 F.b_enumerate) .(Kept.type) (Evs.cons .(Ia5 0) .(Evs.nil)) .(CallIt.enum (Lv.fz))) (CompIn.of [Dt,Dt,Dt,Dt,ER 1,ER 0] (by kernel_rfl) (by kernel_rfl)) .(CompC.map Uu (P.zipIdx) ((λp:Nat×Nat=>AV.tup [.int (p.2:Nat),.int (p.1:Nat)])) ((λp:Nat×Nat=>AV.int (dI c p.1*((P.take (p.2+1)).map (eI c)).sum))) _ (λx hx=>.(As.tuple .(AsL.cons .(Ia3 1) .(AsL.cons .(Ia3 2) .(AsL.nil))))) (λx hx=>.(Ia2 .(Iae .(Iaa .(Ia5 4) .(Ia0 2) .(Lv.fz) (by exact qbi rfl (hpx x.1 (hm x hx).1)) (by exact hz6)) .(Ia1) .(⟨_,rfl,rfl⟩)) .(Ev.call .(Iah 3 F.b_sum) .(Kept.builtin) (Evs.cons .(Iao .(ItE.list .(Iag .(Iav .(Ia5 5) EvO.none (Iau .(Ia2 .(Ia0 1) .(Ia1) .(Op2.add))) EvO.none .(Lv.fz) (by simp) (by assumption)) (hsl x)) .(Lv.fz)) (CompIn.of [Dt,Dt,ER 4] (by kernel_rfl) (by kernel_rfl)) .(CompC.map Uu (P.take (x.2+1)) ((λw:Nat=>AV.int (w:Nat))) ((λw:Nat=>AV.int (eI c w))) _ (λx1 hx1=>.(Ia3 1)) (λx1 hx1=>.(Iae .(Iaa .(Ia5 2) .(Ia0 1) .(Lv.fz) (by exact qbi rfl (hpx x1 (h6t x x1 hx1))) (by exact hz6)) .(Ia1) .(⟨_,rfl,rfl⟩))) .(λ_=>Weak.set Uu) (hp:=by with_unfolding_all exact qa9 (λ_=>rfl) _) (hz:=by exact hzt x))) .(Evs.nil)) EvK.nil (Calls.sum (lvZ (P.take (x.2+1)) (eI c)))) (Ibu (hmu x)))) .(λ_=>Ia8 (Weak.set Uu) Uu) (hx:=by with_reducible assumption) (hp:=by with_unfolding_all exact qa9 (λ_=>rfl) _) (ht:=by exact (λ_=>⟨_,_,_,rfl⟩)) (hz:=by exact hzx))) .(Evs.nil)) EvK.nil (Calls.sum (lvZ P.zipIdx λp:Nat×Nat=>dI c p.1*((P.take (p.2+1)).map (eI c)).sum))) (hco))))
end
end
section
noncomputable def qq5:Nat->Int
  | 0=>35
  | 1=>29
  | 2=>14
  | 3=>133
  | 4=>102
  | 5=>7
  | _=>167
noncomputable abbrev qlo (scr:List Int) (t:Nat):List Int:=(pickL (pickL scr Dt (ER 60) Dt) (ER ((t:Nat):Int)) Dt (ER 7)).map λv=>v.fmod 1000000
noncomputable def qoc (scr:List Int) (t:Nat):Int:=qq5 t+(qlo scr t).sum
noncomputable def quc (a:List (Option AV)):List (Option AV):=a ++ AR (55 - a.length) Dt
section
variable (F:Fac W) {scr:List Int}
theorem qmw (l:List α)(t:Nat):(pickL l (ER ((t:Nat):Int)) Dt (ER 7)).length<=l.length:=by
  refine Af (List.length_filterMap_le _ _) (sliceRange_length_le _ _ _ _ (λhc=>?_) λhc=>?_)
  . simp only[Cc] at hc ⊢;simp only[hc,if_true];constructor
    . omega
    . simp
  . simp[Cc] at hc
theorem qky {scr:List Int}(hz:scr.length<=63)(t:Nat):(pickL (pickL scr Dt (ER 60) Dt) (ER ((t:Nat):Int)) Dt (ER 7)).length<=60:=by
  refine Af (qmw _ t) ?_;rw[show pickL scr Dt (ER 60) Dt=scr.take 60 from qco scr 60,CD];lia
noncomputable abbrev base1L:List (Nat×Int):=[(0,35),(1,29),(2,14),(3,133),(4,102),(5,7),(6,167)]
include F in
theorem qub (hz:scr.length<=63):Ex ⟨W,Y,nm23.1,cd⟩ k fr (quc [ER (.lst (qa0 scr))]) σ (nth bd23.1 0) .next ((quc [ER (.lst (qa0 scr))]).set 2 (ER (.lst (qae (qoc scr))))) σ:=by
  have e1:AV.lst (qbo (qa0 scr) Dt (ER 60) Dt)=.lst (qa0 (pickL scr Dt (ER 60) Dt)):=by rw[qa0,qe4]
  have e2:∀x:Nat×Int,AV.lst (qbo (qa0 (pickL scr Dt (ER 60) Dt)) (ER x.1) Dt (ER 7))=.lst (qa0 (pickL (pickL scr Dt (ER 60) Dt) (ER x.1) Dt (ER 7))):=λx=>by rw[qa0,qe4]
  have z1:(qa0 scr).length<=Ai:=by rw[AB,qa0,Ah];lia
  have z2:(qa0 (pickL scr Dt (ER 60) Dt)).length<=Ai:=by rw[qa0,Ah,show pickL scr Dt (ER 60) Dt=scr.take 60 from qco scr 60,CD,AB];lia
  have hz3:∀x:Nat×Int,(pickL (pickL scr Dt (ER 60) Dt) (ER x.1) Dt (ER 7)).length<=2 ^ 20:=λx=>Af (qky hz x.1) (by decide)
  have h:Ex ⟨W,Y,nm23.1,cd⟩ k fr (quc [ER (.lst (qa0 scr))]) σ (nth bd23.1 0) .next ((quc [ER (.lst (qa0 scr))]).set 2 (ER (.lst (base1L.map λx=>AV.int (x.2+(qlo scr x.1).sum))))) σ:=by
    show Ex _ _ _ _ _ (.Assign _ _ _) _ _ _;exact .(Iar (i:=2) Uu .(ItE.call .(Iah 33 F.b_enumerate) .(Kept.type) (Evs.cons .(Ev.list (Evs.cons .(Ia1) .((Evs.cons .(Ia1) .((Evs.cons .(Ia1) .((Evs.cons .(Ia1) .((Evs.cons .(Ia1) .((Evs.cons .(Ia1) .((Evs.cons .(Ia1) .(Evs.nil))))))))))))))) .(Evs.nil)) .(CallIt.enum (Lv.fz))) (CompIn.of [Dt,Dt,Dt,Dt,ER 0] (by kernel_rfl) (by kernel_rfl)) .(CompC.map Uu (base1L) ((λx=>AV.tup [.int x.1,.int x.2])) ((λx=>AV.int (x.2+(qlo scr x.1).sum))) _ (λx hx=>.(As.tuple .(AsL.cons .(Ia3 1) .(AsL.cons .(Ia3 2) .(AsL.nil))))) (λx hx=>.(Ia2 .(Ia0 2) .(Ev.call .(Iah 3 F.b_sum) .(Kept.builtin) (Evs.cons .(Iao .(ItE.list .(Iag .(Iav .(Iag .(Iav .(Ia5 4) EvO.none (Iau .(Ia1)) EvO.none .(Lv.fz) (by simp) (by assumption)) e1) (Iau .(Ia0 1)) EvO.none (Iau .(Ia1)) .(Lv.fz) (by simp) (by assumption)) (e2 x)) .(Lv.fz)) (CompIn.of [Dt,Dt] (by kernel_rfl) (by kernel_rfl)) .(CompC.map Uu (pickL (pickL scr Dt (ER 60) Dt) (ER x.1) Dt (ER 7)) (AV.int) ((λv=>AV.int (v.fmod 1000000))) _ (λx1 hx1=>.(Ia3 1)) (λx1 hx1=>.(Ia2 .(Ia0 1) .(Ia1) .(Iat (by decide)))) .(λ_=>Weak.set Uu) (hp:=by with_unfolding_all exact qa9 (λ_=>rfl) _) (hz:=by exact hz3 x))) .(Evs.nil)) EvK.nil ((by exact Calls.sum (lvZ _ _)))) .(Op2.add))) .(λ_=>Ia8 (Weak.set Uu) Uu) (ht:=by exact (λ_=>⟨_,_,_,rfl⟩))) .(qa9 (λ_=>Uu) _))
  exact h
end
section
variable (F:Fac W)
noncomputable def qfl (c:Nat->Int):List Int:=(Ae 7).flatMap λt=>qo2 (c t) (((t:Nat):Int).fmod 2)
noncomputable def lm1 (c:Nat->Int):List (Option AV):=[Dt,Dt,ER (.lst (qae c)),Dt,Dt,Dt,Dt,Dt,Dt,Dt,Dt,Dt,Dt,Dt,Dt,Dt,Dt,Dt,Dt,Dt,Dt,Dt,Dt,Dt,Dt,Dt,Dt,Dt,Dt,Dt,Dt,Dt,Dt,Dt,Dt,Dt,Dt,Dt,Dt,Dt,Dt,Dt,Dt,Dt,Dt,Dt,Dt,Dt,Dt,Dt,Dt,Dt,Dt,Dt,Dt]
noncomputable def lm2 (c:Nat->Int):List (Option AV):=[Dt,Dt,ER (.lst (qae c)),ER (.loc 0),Dt,Dt,Dt,Dt,Dt,Dt,Dt,Dt,Dt,Dt,Dt,Dt,Dt,Dt,Dt,Dt,Dt,Dt,Dt,Dt,Dt,Dt,Dt,Dt,Dt,Dt,Dt,Dt,Dt,Dt,Dt,Dt,Dt,Dt,Dt,Dt,Dt,Dt,Dt,Dt,Dt,Dt,Dt,Dt,Dt,Dt,Dt,Dt,Dt,Dt,Dt]
theorem qpw (n w:Int):(qo2 n w).length<=6:=by
  obtain ⟨hl,h,t,e⟩:=qgq (n:=n) (w:=w);unfold qo2;rw[e] at hl ⊢;simpa using hl
theorem quq (f:Nat->List Int)(h:∀t,(f t).length<=6):∀n:Nat,((Ae n).flatMap f).length<=6*n
  | 0=>Aq _
  | n+1=>by
    have:=quq f h n;have:=h n;rw[DN,List.flatMap_append,An,BH,Gw,AO];lia
theorem qou (c:Nat->Int):(qfl c).length<=42:=quq _ (λt=>qpw _ _) 7
theorem ql9 (hc:∀t,0<=c t/\c t<64 ^ 6):Reads [c 0,c 1,c 2,c 3,c 4,c 5,c 6] (qfl c):=by
  have h:=λt rest=>qtj (w:=((t:Nat):Int).fmod 2) (hc t).1 (hc t).2 rest
  show Reads _ ([0,1,2,3,4,5,6].flatMap λt=>qo2 (c t) (((t:Nat):Int).fmod 2));simp only[BH,Gw];exact ⟨_,h 0 _,_,h 1 _,_,h 2 _,_,h 3 _,_,h 4 _,_,h 5 _,_,h 6 _,rfl⟩
include F in
theorem qua:Ex ⟨W,Y,nm23.1,cd⟩ (k+1) fr (lm1 c) [] (nth bd23.1 1) .next (lm2 c) [.iter (qa0 (qfl c))]:=by
  have hz:((Ae 7).flatMap λt:Nat=>qo2 (c t) (((t:Nat):Int).fmod 2)).length<=2 ^ 20:=Af (qou c) (by decide);have hkd:=(F.f13 .none .none rfl rfl).kept;have e1:AV.lst ((Ae 7).flatMap λt:Nat=>(qo2 (c t) (((t:Nat):Int).fmod 2)).map λo=>AV.int o)=.lst (qa0 (qfl c)):=by
    rw[qa0,qfl,List.map_flatMap]
  have hpt:plains (qa0 (qfl c))=Hq:=qc5 _;have h:Ex ⟨W,Y,nm23.1,cd⟩ (k+1) fr (lm1 c) [] (nth bd23.1 1) .next ((lm1 c).set 3 (ER (.loc ([]:List AObj).length))) ([] ++ [.iter (qa0 (qfl c))]):=by
    show Ex _ _ _ _ _ (.Assign _ _ _) _ _ _;exact .(Ia4 .(Ev.call .(Iah 34 F.b_iter) .(Kept.builtin) (Evs.cons .(Iag .(Iao .(ItE.call .(Iah 33 F.b_enumerate) .(Kept.type) (Evs.cons .(Ia0 2) .(Evs.nil)) .(CallIt.enum (Lv.fz))) (CompIn.of [Dt,Dt,Dt,Dt,Dt] (by kernel_rfl) (by kernel_rfl)) .(Ibx Uu Uu (Ae 7) ((λt:Nat=>AV.tup [.int ((t:Nat):Int),.int (c t)])) ((λt:Nat=>qo2 (c t) (((t:Nat):Int).fmod 2))) ((λ_ o=>AV.int o)) ((λ_ o=>AV.int o)) _ (λx hx=>.(As.tuple .(AsL.cons .(Ia3 1) .(AsL.cons .(Ia3 2) .(AsL.nil))))) _ (λx hx=>.(ItE.list .(Ev.call .(Iad 4 F.g_law_digits) (hkd) (Evs.cons .(Ia0 2) .((Evs.cons .(Ia2 .(Ia0 1) .(Ia1) .(Iat (by decide))) .(Evs.nil)))) EvK.nil (qil F)) .(Lv.fz))) _ (λx hx y hy=>.(Ia3 3)) (λx hx y hy=>.(Ia0 3)) .(λ_=>Ia8 (Weak.set Uu) Uu) (by intro _ _;exact Weak.set Uu) (by intro _ _;with_unfolding_all rfl) (by first | (with_reducible assumption) | with_unfolding_all rfl) (by intro _ _;first | (with_reducible assumption) | with_unfolding_all rfl) Uu (by with_unfolding_all exact Lv.fz) (by intro _;with_unfolding_all exact Lv.fz) Uu (by intro _;with_unfolding_all exact qcn _) (by with_unfolding_all first | exact (λ_=>⟨_,_,_,rfl⟩) | exact (λh=>by cases h)) (by intro _;with_unfolding_all first | exact (λ_=>⟨_,_,_,rfl⟩) | exact (λh=>by cases h)) (by intro _ _;with_unfolding_all rfl) (by exact hz))) (e1)) .(Evs.nil)) EvK.nil (Id6 hpt)) .(Ia3 3))
  exact h
noncomputable abbrev st1 (c:Nat->Int):List AObj:=[.iterDone,.lst (qae c)]
noncomputable def lm3 (c:Nat->Int):List (Option AV):=[Dt,Dt,ER (.lst (qae c)),Dt,ER (.lst (qab c)),Dt,Dt,Dt,Dt,Dt,Dt,Dt,Dt,Dt,Dt,Dt,Dt,Dt,Dt,Dt,Dt,Dt,Dt,Dt,Dt,Dt,Dt,Dt,Dt,Dt,Dt,Dt,Dt,Dt,Dt,Dt,Dt,Dt,Dt,Dt,Dt,Dt,Dt,Dt,Dt,Dt,Dt,Dt,Dt,Dt,Dt,Dt,Dt,Dt,Dt]
noncomputable def lm4 (c:Nat->Int):List (Option AV):=[Dt,Dt,ER (.lst (qae c)),Dt,ER (.lst (qab c)),ER (.loc 2),ER (.bool Hq),Dt,Dt,Dt,Dt,Dt,Dt,Dt,Dt,Dt,Dt,Dt,Dt,Dt,Dt,Dt,Dt,Dt,Dt,Dt,Dt,Dt,Dt,Dt,Dt,Dt,Dt,Dt,Dt,Dt,Dt,Dt,Dt,Dt,Dt,Dt,Dt,Dt,Dt,Dt,Dt,Dt,Dt,Dt,Dt,Dt,Dt,Dt,Dt]
noncomputable def lm5 (c:Nat->Int):List (Option AV):=[Dt,Dt,ER (.lst (qae c)),Dt,ER (.lst (qab c)),ER (.loc 2),ER (.bool Hq),ER (.lst (stL c 6)),ER (.int (wC c 63)),Dt,Dt,Dt,Dt,Dt,Dt,Dt,Dt,Dt,Dt,Dt,Dt,Dt,Dt,Dt,Dt,Dt,Dt,Dt,Dt,Dt,Dt,Dt,Dt,Dt,Dt,Dt,Dt,Dt,Dt,Dt,Dt,Dt,Dt,Dt,Dt,Dt,Dt,Dt,Dt,Dt,Dt,Dt,Dt,Dt,Dt]
noncomputable def lm6 (c:Nat->Int) (n:Nat):List (Option AV):=[Dt,Dt,ER (.lst (qae c)),Dt,ER (.lst (qab c)),ER (.loc 2),ER (.bool Hq),ER (.lst (stL c 6)),ER (.int (wC c 63)),ER (.int ((c 6).fmod 27)),ER (.int (((c 6).fdiv 27).fmod 13 - 4)),ER (.loc n),Dt,Dt,Dt,Dt,Dt,Dt,Dt,Dt,Dt,Dt,Dt,Dt,Dt,Dt,Dt,Dt,Dt,Dt,Dt,Dt,Dt,Dt,Dt,Dt,Dt,Dt,Dt,Dt,Dt,Dt,Dt,Dt,Dt,Dt,Dt,Dt,Dt,Dt,Dt,Dt,Dt,Dt,Dt]
include F in
theorem qu9 (hc:∀t,0<=c t/\c t<64 ^ 6)(hY:∀n,Y n):Ex ⟨W,Y,nm23.1,cd⟩ (k+2) fr (lm2 c) [.iter (qa0 (qfl c))] (nth bd23.1 2) .next (lm1 c) (st1 c):=by
  have hkr:=(F.f14 .none .none).kept;have hread:Calls W Y (k+2) fr ([.iter (qa0 (qfl c))] ++ [.lst []]) (.glob (.ref A14)) [.loc 0,.loc [AObj.iter (qa0 (qfl c))].length] [] [] (.loc 1) (st1 c):=qld F (hY 0) (hY 1) (by decide) rfl rfl (ql9 hc) (by show 7<20;decide);have hne:Hr=Hq↔AV.lst (qa0 [c 0,c 1,c 2,c 3,c 4,c 5,c 6])≠.lst (qa0 [c 0,c 1,c 2,c 3,c 4,c 5,c 6]):=⟨nofun,λq=>absurd rfl q⟩
  have h:Ex ⟨W,Y,nm23.1,cd⟩ (k+2) fr (lm2 c) [.iter (qa0 (qfl c))] (nth bd23.1 2) .next (lm2 c) (st1 c):=by
    show Ex _ _ _ _ _ (.If _ _ _ _) _ _ _;exact .(Ia6 (c:=Hr) .(Iab .(Tr.cmp .(Ev.call .(Iad 35 F.g_law_read) (hkr) (Evs.cons .(Ia0 3) .((Evs.cons .(Ias Evs.nil) .(Evs.nil)))) EvK.nil (hread)) .(Ia0 2) ((by with_unfolding_all exact Op2.ne (c:=Hr) (Icf (n:=1) (l:=[c 0,c 1,c 2,c 3,c 4,c 5,c 6]) rfl) (Dv.ints (l:=[c 0,c 1,c 2,c 3,c 4,c 5,c 6])) hne))) rfl) (λh=>nomatch h) (λ_=>.(Exs.nil)))
  exact Ex.post h (by with_unfolding_all exact Ia9 36028797018963963)
include F in
theorem qu8:Ex ⟨W,Y,nm23.1,cd⟩ (k+1) fr (lm1 c) σ (nth bd23.1 3) .next (lm3 c) σ:=by
  have hkr:=(F.f16 .none rfl).kept;have h:Ex ⟨W,Y,nm23.1,cd⟩ (k+1) fr (lm1 c) σ (nth bd23.1 3) .next ((lm1 c).set 4 (ER (.lst (qab c)))) σ:=by
    show Ex _ _ _ _ _ (.Assign _ _ _) _ _ _;exact .(Ia4 .(Ev.call .(Iad 36 F.g_law_parts) (hkr) (Evs.cons .(Ia0 2) .(Evs.nil)) EvK.nil (qj8 F)) .(Ibz 4 (hp:=.(qaq (λ_=>Uu) _))))
  exact h
include F in
theorem qu7 (hd:Calls W Y k fr (st1 c) (.glob (.ref A18)) [.lst (qae c),.lst (qab c)] [] [] (.tup [.loc 2,.bool Hq]) σ):Ex ⟨W,Y,nm23.1,cd⟩ k fr (lm3 c) (st1 c) (nth bd23.1 4) .next (lm4 c) σ:=by
  have hkr:=(F.f18 .none .none).kept;have h:Ex ⟨W,Y,nm23.1,cd⟩ k fr (lm3 c) (st1 c) (nth bd23.1 4) .next (((lm3 c).set 5 (ER (.loc 2))).set 6 (ER (.bool Hq))) σ:=by
    show Ex _ _ _ _ _ (.Assign _ _ _) _ _ _;exact .(Ia4 .(Ev.call .(Iad 37 F.g_law_document) (hkr) (Evs.cons .(Ia0 2) .((Evs.cons .(Ia5 4) .(Evs.nil)))) EvK.nil (hd)) .(As.tuple .(AsL.cons .(Ia3 5) .(AsL.cons .(Ia3 6) .(AsL.nil)))))
  exact h
include F in
theorem qu6:Ex ⟨W,Y,nm23.1,cd⟩ (k+1) fr (lm4 c) σ (nth bd23.1 5) .next (lm5 c) σ:=by
  have hkr:=(F.f21 .none rfl).kept;have hc:=qlc F (Y:=Y) (k:=k) (fr:=fr) (σ:=σ) (c:=c);have hp:plains (stL c 6)=Hq:=qa9 (λ_=>rfl) _;unfold lm5;generalize stL c 6=S at hc hp ⊢;generalize wC c 63=w at hc ⊢;have hp2:plain (.lst S)=Hq:=hp;have hp3:plains [AV.lst S,.int w]=Hq:=by show (plain (.lst S)&&Hq)=Hq;rw[hp2];rfl
  have h:Ex ⟨W,Y,nm23.1,cd⟩ (k+1) fr (lm4 c) σ (nth bd23.1 5) .next (((lm4 c).set 7 (ER (.lst S))).set 8 (ER (.int w))) σ:=by
    show Ex _ _ _ _ _ (.Assign _ _ _) _ _ _;exact .(Ia4 .(Ev.call .(Iad 38 F.g_law_sets) (hkr) (Evs.cons .(Ia5 4) .(Evs.nil)) EvK.nil (hc)) .(As.tuple .(AsL.cons .(Ia3 7 (hp:=(by assumption))) .(AsL.cons .(Ia3 8) .(AsL.nil)))))
  exact h
include F in
theorem qu5 (hn:σ.length=n):Ex ⟨W,Y,nm23.1,cd⟩ k fr (lm5 c) σ (nth bd23.1 6) .next (lm6 c n) (σ ++ [.lst []]):=by
  have hz6:(qae c).length<=Ai:=by exact (by decide:7<=Ai)
  have e2:AV.tup [.int ((c 6).fmod 27),.int (((c 6).fdiv 27).fmod 13 - 4),.loc σ.length]=.tup [.int ((c 6).fmod 27),.int (((c 6).fdiv 27).fmod 13 - 4),.loc n]:=by rw[hn]
  have h6:=qds (c:=c) (t:=6) (by decide);unfold lm5 lm6;generalize stL c 6=S;generalize wC c 63=w;have h:Ex ⟨W,Y,nm23.1,cd⟩ k fr [Dt,Dt,ER (.lst (qae c)),Dt,ER (.lst (qab c)),ER (.loc 2),ER (.bool Hq),ER (.lst S),ER (.int w),Dt,Dt,Dt,Dt,Dt,Dt,Dt,Dt,Dt,Dt,Dt,Dt,Dt,Dt,Dt,Dt,Dt,Dt,Dt,Dt,Dt,Dt,Dt,Dt,Dt,Dt,Dt,Dt,Dt,Dt,Dt,Dt,Dt,Dt,Dt,Dt,Dt,Dt,Dt,Dt,Dt,Dt,Dt,Dt,Dt,Dt] σ (nth bd23.1 6) .next (((([Dt,Dt,ER (.lst (qae c)),Dt,ER (.lst (qab c)),ER (.loc 2),ER (.bool Hq),ER (.lst S),ER (.int w),Dt,Dt,Dt,Dt,Dt,Dt,Dt,Dt,Dt,Dt,Dt,Dt,Dt,Dt,Dt,Dt,Dt,Dt,Dt,Dt,Dt,Dt,Dt,Dt,Dt,Dt,Dt,Dt,Dt,Dt,Dt,Dt,Dt,Dt,Dt,Dt,Dt,Dt,Dt,Dt,Dt,Dt,Dt,Dt,Dt,Dt]:List (Option AV)).set 9 (ER (.int ((c 6).fmod 27)))).set 10 (ER (.int (((c 6).fdiv 27).fmod 13 - 4)))).set 11 (ER (.loc n))) (σ ++ [.lst []]):=by
    show Ex _ _ _ _ _ (.Assign _ _ _) _ _ _;exact .(Ici (i:=9) (j:=10) (l:=11) .(Iag .(Ev.tuple (Evs.cons .(Ia2 .(Iaa .(Ia0 2) .(Ia1) .(Lv.fz) (by exact qbi rfl h6) (by exact hz6)) .(Ia1) .(Iat (by decide))) .((Evs.cons .(Ia2 .(Ia2 .(Ia2 .(Iaa .(Ia0 2) .(Ia1) .(Lv.fz) (by exact qbi rfl h6) (by exact hz6)) .(Ia1) .(Iak (by decide) (by decide))) .(Ia1) .(Iat (by decide))) .(Ia1) .(Op2.sub)) .((Evs.cons .(Ias Evs.nil) .(Evs.nil))))))) (e2)) Uu Uu Uu (by decide) (by decide) (by decide) Uu Uu Uu)
  exact h
end
end
section
noncomputable def ta237:PSigma (λl=>(qbm (nth bd23.1 7))=l):=⟨_,by conv=>lhs;whnf⟩
noncomputable def bo237:PSigma (λl=>(qb4 (nth bd23.1 7))=l):=⟨_,by conv=>lhs;whnf⟩
noncomputable abbrev bsC (c:Nat->Int) (lf:Bool):List (List Nat):=bkC c lf 6 0
noncomputable abbrev plC (c:Nat->Int) (lf:Bool):List Nat:=(bsC c lf).flatten
noncomputable abbrev qe0 (lf:Bool):AV:=.glob (.ref (if lf then A3 else A1))
noncomputable abbrev qsw (lf:Bool):AV:=.int (if lf then -1 else 1)
section
variable (c:Nat->Int) (lf:Bool) (n ln:Nat)
noncomputable def lp0:List (Option AV):=((lm6 c n).set 12 (ER (qe0 lf))).set 13 (ER (qsw lf))
noncomputable def lp1:List (Option AV):=((lp0 c lf n).set 32 (ER (rwA c (bsC c lf)))).set 14 (ER (.loc ln))
noncomputable def lp2:List (Option AV):=(lp1 c lf n ln).set 15 (ER (.lst (qaa (plC c lf))))
end
section
variable (F:Fac W) {ln:Nat}
theorem pl_perm:(plC c lf).Perm (Ae 6):=t6.perm
theorem qre {x:Nat}(h:x∈plC c lf):x<6:=Au.mp (pl_perm.mem_iff.mp h)
theorem qmv:(plC c lf).length=6:=pl_perm.length_eq
theorem qmu {x:Nat}(h:x<6):x∈plC c lf:=pl_perm.mem_iff.mpr (Au.mpr h)
theorem bs_len:0<(bsC c lf).length/\(bsC c lf).length<=6:=t6.len
include F in
theorem qt7 (D:DocS c 2 σ)(hr:σ[2]?=ER (.lst ((Ae 6).map λs=>.loc (2+7+5*s+2))))(hn:σ.length=ln):Ex ⟨W,Y,nm23.1,cd⟩ (k+11) fr (lp0 c lf n) σ (nth bo237.1 0) .next (lp1 c lf n ln) (σ ++ [.lst []]):=by
  have hc:=qis F (k:=k) (c:=c) (n:=2) (qwb F lf) 6 0 (by decide) (by decide) Y fr σ D;have hk:=(F.f20 .none .none).kept;have hz:((Ae 6).map λs=>AV.loc (2+7+5*s+2)).length<=Ai:=by exact (by decide:6<=Ai)
  have hpl:plain (rwA c (bsC c lf))=Hq:=qao _;have hL:=Lv.loc hr;have ev:AV.tup [rwA c (bsC c lf),.loc σ.length]=.tup [rwA c (bsC c lf),.loc ln]:=by rw[hn]
  unfold lp1;generalize rwA c (bsC c lf)=V at hc hpl ev ⊢;have hpl2:plains [V]=Hq:=by show (plain V&&Hq)=Hq;rw[hpl];rfl
  have hpl3:plains [V,.loc ln]=Hq:=by show (plain V&&Hq)=Hq;rw[hpl];rfl
  have h:Ex ⟨W,Y,nm23.1,cd⟩ (k+11) fr (lp0 c lf n) σ (nth bo237.1 0) .next (((lp0 c lf n).set 32 (ER V)).set 14 (ER (.loc ln))) (σ ++ [.lst []]):=by
    show Ex _ _ _ _ _ (.Assign _ _ _) _ _ _;exact .(Ic3 (i:=32) (j:=14) .(Iag .(Ev.tuple (Evs.cons .(Ev.call .(Iad 41 F.g_law_blocks) (hk) (Evs.cons .(Iaa .(Ia0 5) .(Ia1) (by exact hL) (by exact qbi (j:=0) rfl rfl) (by exact hz)) .((Evs.cons .(Ia5 12) .(Evs.nil)))) EvK.nil (hc)) .((Evs.cons .(Ias Evs.nil) .(Evs.nil))))) (ev)) Uu Uu (by decide) (by assumption) Uu)
  exact h
include F in
theorem qt6:Ex ⟨W,Y,nm23.1,cd⟩ k fr (lp1 c lf n ln) σ (nth bo237.1 1) .next (lp2 c lf n ln) σ:=by
  have hz:((bsC c lf).flatMap λB=>B).length<=2 ^ 20:=by
    rw[List.flatMap_id'];exact Af (Bn qmv) (by decide)
  have hv:AV.lst ((bsC c lf).flatMap λB=>B.map λk:Nat=>AV.int (k:Nat))=.lst (qaa (plC c lf)):=by
    rw[qaa,plC,List.map_flatten,List.flatMap_def]
  have hpl:=qeu (plC c lf);have hpp:plain (rwA c (bsC c lf))=Hq:=qao _;have h:Ex ⟨W,Y,nm23.1,cd⟩ k fr (lp1 c lf n ln) σ (nth bo237.1 1) .next ((lp1 c lf n ln).set 15 (ER (.lst (qaa (plC c lf))))) σ:=by
    show Ex _ _ _ _ _ (.Assign _ _ _) _ _ _;exact .(Id0 (i:=15) Uu .(Iag .(Iao .(ItE.list .(Ia5 32) .(Lv.fz)) (CompIn.of [Dt,Dt,Dt] (by kernel_rfl) (by kernel_rfl)) .(Ibx Uu Uu (bsC c lf) (qdm (dI c) (eI c)) ((λB:List Nat=>B)) ((λ(_:List Nat) (k:Nat)=>AV.int (k:Nat))) ((λ(_:List Nat) (k:Nat)=>AV.int (k:Nat))) _ (λx hx=>.(Ia3 1 (hp:=.(qay _)))) _ (λx hx=>.(ItE.list .(Iae .(Ia0 1) .(Ia1) .(⟨_,rfl,rfl⟩)) .(Lv.fz))) _ (λx hx y hy=>.(Ia3 2)) (λx hx y hy=>.(Ia0 2)) .(λ_=>Weak.set Uu) (by intro _ _;exact Weak.set Uu) (by intro _ _;with_unfolding_all rfl) (by first | (with_reducible assumption) | with_unfolding_all rfl) (by intro _ _;first | (with_reducible assumption) | with_unfolding_all rfl) Uu (by with_unfolding_all exact Lv.fz) (by intro _;with_unfolding_all exact Lv.fz) (by with_unfolding_all assumption) (by intro _;with_unfolding_all exact qaq (λ_=>rfl) _) (by with_unfolding_all first | exact (λ_=>⟨_,_,_,rfl⟩) | exact (λh=>by cases h)) (by intro _;with_unfolding_all first | exact (λ_=>⟨_,_,_,rfl⟩) | exact (λh=>by cases h)) (by intro _ _;with_unfolding_all rfl) (by exact hz))) (hv)) (by assumption))
  exact h
include F in
theorem qt5:Ex ⟨W,Y,nm23.1,cd⟩ k fr (lp2 c lf n ln) σ (nth bo237.1 2) .next (lp2 c lf n ln) σ:=by
  have hz6:(qab c).length<=Ai:=by exact (by decide:6<=Ai)
  have hL:Lv σ (.lst (qaa (plC c lf))) (qa0 ((plC c lf).map λx=>((x:Nat):Int))):=lvZ _ _;have hl:((plC c lf).map λx=>((x:Nat):Int)).length=6:=by rw[Ah,qmv]
  have hperm:([0,1,2,3,4,5]:List Int).Perm ((plC c lf).map λx=>((x:Nat):Int)):=(pl_perm.map λx=>((x:Nat):Int)).symm;have hso:Calls W Y k fr σ (.glob (.builtin "sorted")) [.lst (qaa (plC c lf))] [] [] (.lst (qa0 [0,1,2,3,4,5])) σ:=Ibo hL (by rw[hl];decide) hperm (by decide);have h5:(Ae 5).length<=2 ^ 20:=by decide
  have e1:∀x:Nat,(1:Int)+((x:Nat):Int)*1=((x+1:Nat):Int):=qwz;have hpx:∀x∈Ae 5,(qab c)[x+1]?=ER (qe6 c (x+1)):=λx hx=>qe5 (Fa (Au.mp hx))
  have hme:∀{x:Nat},x<6->((x:Nat):Int)∈(plC c lf).map λx=>((x:Nat):Int):=λh=>Bg.mpr ⟨_,qmu h,rfl⟩
  have hm1:∀x∈Ae 5,qoo c (x+1)∈(plC c lf).map λx=>((x:Nat):Int):=λx hx=>by
    rw[qj9];exact hme (Bc (qev (c:=c) (B6 x)).2 (Fa (Au.mp hx)))
  have hm2:∀x∈Ae 5,(1:Int)+((x:Nat):Int)*1∈(plC c lf).map λx=>((x:Nat):Int):=λx hx=>by
    rw[e1];exact hme (Fa (Au.mp hx))
  have hz1:((plC c lf).map λx=>((x:Nat):Int)).length<=1000:=by rw[hl];decide
  have hnil:AV.lst (((Ae 5).filter λx:Nat=>decide (((((plC c lf).map λx=>((x:Nat):Int)).idxOf (qoo c (x+1)):Nat):Int) > ((((plC c lf).map λx=>((x:Nat):Int)).idxOf ((1:Int)+((x:Nat):Int)*1):Nat):Int))).map λx:Nat=>AV.int (1+(x:Nat)*1))=.lst []:=by
    have:((Ae 5).filter λx:Nat=>decide (((((plC c lf).map λx=>((x:Nat):Int)).idxOf (qoo c (x+1)):Nat):Int) > ((((plC c lf).map λx=>((x:Nat):Int)).idxOf ((1:Int)+((x:Nat):Int)*1):Nat):Int)))=[]:=EM.mpr λx hx=>by
      have h6:=Fa (Au.mp hx);have:=qum (t6 (c:=c) |>.lin (lf:=lf)) (B6 x) (qmu h6) (qmu (Bc (qev (c:=c) (B6 x)).2 h6));rw[e1,qj9,decide_eq_true_iff];exact λq=>absurd (Gz.mp q) (A9.mpr this)
    rw[this];rfl
  have hne:Hr=Hq↔AV.lst (qa0 [0,1,2,3,4,5])≠.lst (qa0 [0,1,2,3,4,5]):=⟨nofun,λq=>absurd rfl q⟩
  have hne2:Hr=Hq↔AV.lst []≠.lst []:=⟨nofun,λq=>absurd rfl q⟩
  have hd:Dv σ (.lst (qa0 [0,1,2,3,4,5])) (.lst (qa0 [0,1,2,3,4,5])):=Dv.ints;show Ex _ _ _ _ _ (.If _ _ _ _) _ _ _;exact .(Ia6 (c:=Hr) .(Iab .(Ib3 .(Ibt .(Tr.cmp .(Ev.call .(Iah 42 F.b_sorted) .(Kept.builtin) (Evs.cons .(Ia5 15) .(Evs.nil)) EvK.nil (hso)) .(Ev.list (Evs.cons .(Ia1) .((Evs.cons .(Ia1) .((Evs.cons .(Ia1) .((Evs.cons .(Ia1) .((Evs.cons .(Ia1) .((Evs.cons .(Ia1) .(Evs.nil))))))))))))) ((by with_unfolding_all exact Op2.ne (c:=Hr) hd hd hne))) (λ_=>.(Ib9 .(Tr.cmp .(Iag .(Iao .(ItE.call .(Iah 43 F.b_range) .(Kept.type) (Evs.cons .(Ia1) .((Evs.cons .(Ia1) .(Evs.nil)))) .(Icl (by decide))) (CompIn.of [Dt,Dt,ER 4,ER 15] (by kernel_rfl) (by kernel_rfl)) .(Ibc Uu (Ae 5) ((λx:Nat=>AV.int (1+(x:Nat)*1))) ((λx:Nat=>decide (((((plC c lf).map λx=>((x:Nat):Int)).idxOf (qoo c (x+1)):Nat):Int) > ((((plC c lf).map λx=>((x:Nat):Int)).idxOf ((1:Int)+((x:Nat):Int)*1):Nat):Int)))) ((λx:Nat=>AV.int (1+(x:Nat)*1))) _ (λx hx=>.(Ia3 1)) (λx hx=>.(Tr.cmp .(Iaj .(Ia5 3) (Icd Lv.fz) .(Kept.builtin) (Evs.cons .(Iae .(Iaa .(Ia5 2) .(Ia0 1) .(Lv.fz) (by exact qbi (e1 x) (hpx x hx)) (by exact hz6)) .(Ia1) .(⟨_,rfl,rfl⟩)) .(Evs.nil)) (by with_unfolding_all exact (Ic8 hL hz1 (hm1 x hx)))) .(Iaj .(Ia5 3) (Icd Lv.fz) .(Kept.builtin) (Evs.cons .(Ia0 1) .(Evs.nil)) (by with_unfolding_all exact (Ic8 hL hz1 (hm2 x hx)))) .(Iec))) (λx hx hp=>.(Ia0 1)) .(λ_=>Weak.set Uu) (hz:=by exact h5))) (hnil)) .(Ev.list Evs.nil) ((by with_unfolding_all exact Op2.ne (c:=Hr) (Dv.of D1.nil) (Dv.of D1.nil) hne2))))) (λ_=>rfl))) (show (Hr||false)=Hr from rfl)) (λh=>nomatch h) (λ_=>.(Exs.nil)))
include F in
theorem qt4:Ex ⟨W,Y,nm23.1,cd⟩ (k+1) fr (lp2 c lf n ln) σ (nth bo237.1 3) .next (lp2 c lf n ln) σ:=by
  have hc:=qix F (Y:=Y) (k:=k) (fr:=fr) (σ:=σ) (c:=c) (P:=plC c lf) (λx hx=>qre hx) (Bn qmv);have hk:=(F.f22 .none .none rfl rfl).kept;have hw:qbu (dI c) (eI c) 0 (plC c lf)=wC c 63:=(t6 (c:=c) |>.waits (lf:=lf)).symm;rw[hw] at hc;have hb:(wC c 63 != wC c 63)=Hr:=bne_self_eq_false _;unfold lp2 lp1 lp0 lm6;generalize wC c 63=w at hc hb ⊢;generalize stL c 6=S;show Ex _ _ _ _ _ (.If _ _ _ _) _ _ _;exact .(Ia6 (c:=Hr) .(Iab .(Tr.cmp .(Ev.call .(Iad 44 F.g_law_waits) (hk) (Evs.cons .(Ia5 15) .((Evs.cons .(Ia5 4) .(Evs.nil)))) EvK.nil (hc)) .(Ia0 8) .(Iee)) hb) (λh=>nomatch h) (λ_=>.(Exs.nil)))
end
end
section
noncomputable def orR (e:Expr):Expr:=quv e 1
noncomputable def qxi (e:Expr):Expr:=quv e 0
noncomputable def la23a:PSigma (λl=>qud (kwE (qxe (qf3 (nth (qb4 (nth bd23.1 7)) 4))) 0)=l):=⟨_,by conv=>lhs;whnf⟩
noncomputable def la23b:PSigma (λl=>qud (kwE (qxi (orR (qiz (nth bo237.1 5)))) 0)=l):=⟨_,by conv=>lhs;whnf⟩
section
variable (c:Nat->Int) (lf:Bool)
noncomputable def kyC (j:Nat):Int:=-(rat (dI c) (eI c) 12252240 ((bsC c lf).getD j []))
noncomputable abbrev lnC (j:Nat):List Nat:=lnB (kyC c lf) lf j
noncomputable abbrev nB:Nat:=(bsC c lf).length
end
theorem qhv:∀N:Fin 7,pickL (Ae N) Dt Dt (ER (-1))=(Ae N).reverse/\pickL (Ae N) Dt Dt (ER 1)=Ae N:=by decide +kernel
theorem qrf (h:N<=6):AV.lst (qbo (qaa (Ae N)) Dt Dt (ER (if lf then -1 else 1)))=.lst (qaa (if lf then (Ae N).reverse else Ae N)):=by
  rw[qaa,qe4];cases lf with
  | true=>exact congrArg (λl=>AV.lst (qaa l)) (qhv ⟨N,Dq h⟩).1
  | false=>exact congrArg (λl=>AV.lst (qaa l)) (qhv ⟨N,Dq h⟩).2
section
theorem qjg (a b:Nat)(hab:a<=b)(hb:b<nB c lf):kyC c lf a<=kyC c lf b:=by
  rcases C3 hab with h | rfl
  . have hs:Srt (dI c) (eI c) (bsC c lf):=t6.srt;have:=B8.mp hs a b (Bc h hb) hb h;rw[kyC,kyC,qas (Aj (Bc h hb)),qas (Aj hb)];exact Int.neg_le_neg this
  . exact Ca _
theorem qu1 (h:j<=nB c lf):(lnC c lf j).Pairwise (LtL (kyC c lf) lf):=qqo qjg j h
theorem qml {l:List Nat}(hN:N<=nB c lf)(hl:l=if lf then (Ae N).reverse else Ae N):qgy (λi j=>decide ((l.map (kyC c lf)).getD i 0<(l.map (kyC c lf)).getD j 0)) (qaa l)=qaa (lnC c lf N):=by
  obtain ⟨h1,h2⟩:=qmr l hl;obtain ⟨p,q1,q2,q3⟩:=qlb (SWO.ints (f:=λi=>(l.map (kyC c lf)).getD i 0)) (qaa l);have hlen:(qaa l).length=l.length:=Ah _;rw[hlen] at q1;have hp:∀i∈p,i<l.length:=λi hi=>Au.mp (q1.mem_iff.mp hi)
  have hgd:∀{i},i<l.length->l.getD i 0=l[i]!:=λh=>by rw[BF,List.getElem!_eq_getElem?_getD];rfl
  have hk:∀i,i<l.length->(l.map (kyC c lf)).getD i 0=kyC c lf (l.getD i 0):=λi hi=>by
    rw[qas (x:=kyC c lf l[i]) (by rw[Ao,Aj hi];rfl),qas (Aj hi)]
  rw[q3];have e:(p.map λi=>(qaa l).getD i .none)=qaa (p.map λi=>l.getD i 0):=by
    show _=(p.map λi=>l.getD i 0).map λw:Nat=>AV.int ((w:Nat):Int)
    rw[BL];refine CT λi hi=>?_
    rw[qas (x:=AV.int ((l[i]'(hp i hi):Nat):Int)) (by rw[Ao,Aj (hp i hi)];rfl)];show _=AV.int ((l.getD i 0:Nat):Int);rw[qas (Aj (hp i hi))]
  rw[e];refine congrArg qaa (qu0 ?_ ?_ (qu1 hN))
  . refine ((q1.map λi=>l.getD i 0).trans ?_).trans (h2.trans (qfg N).symm);have:(Ae l.length).map (λi=>l.getD i 0)=l:=by
      apply List.ext_getElem?;intro i;rw[Ao];by_cases hi:i<l.length
      . rw[Dy hi,Aj hi];exact congrArg ER (qas (Aj hi))
      . rw[Dd (by rw[AW];simp_all),Dd (A9.mp hi)];rfl
    rw[this]
  . refine EO.mpr (q2.imp_of_mem λ{a b} ha hb q=>?_);have ha:=hp a ha;have hb:=hp b hb;have h3:=hk a ha;have h4:=hk b hb;rcases q with q | ⟨q,hab⟩
    . have q:decide ((l.map (kyC c lf)).getD a 0<(l.map (kyC c lf)).getD b 0)=Hq:=q;rw[h3,h4] at q;exact .inl (of_decide_eq_true q)
    . have q:decide ((l.map (kyC c lf)).getD b 0<(l.map (kyC c lf)).getD a 0)=Hr:=q;rw[h3,h4] at q;have hle:=CP.mp (of_decide_eq_false q);rcases Ez hle with z | z
      . exact .inl z
      . refine .inr ⟨z,?_⟩;rw[qas (Aj ha),qas (Aj hb)];exact B8.mp h1 a b ha hb hab
variable (F:Fac W)
theorem qq3 {x:Nat}(h:x<nB c lf):(qax (dI c) (eI c) (bsC c lf))[x]?=ER (qdm (dI c) (eI c) ((bsC c lf).getD x [])):=by
  rw[qax,Ao,Aj h,qas (Aj h)];rfl
theorem qq2 {x:Nat}(h:x<nB c lf):Bk (dI c) (eI c) ((bsC c lf).getD x []):=by
  rw[qas (Aj h)];exact t6.bks (lf:=lf) _ (List.getElem_mem h)
theorem qg8:(qax (dI c) (eI c) (bsC c lf)).length<=Ai:=by
  rw[Ah,AB];exact Af bs_len.2 (by decide)
include F in
theorem qs8 {x:Nat}(h:x<nB c lf)(k:Nat)(fr:List HA)(Y:Nat->Prop):Calls W Y (k+2) fr σ (.clo la23a.1 ["blocks"] [rwA c (bsC c lf)]) [.int (x:Nat)] [] [] (.int (kyC c lf x)) σ:=by
  have hpc:plains [rwA c (bsC c lf)]=Hq:=by show (plain (rwA c (bsC c lf))&&Hq)=Hq;rw[show plain (rwA c (bsC c lf))=Hq from qao _];rfl
  refine Icg (k:=k+1) (m0:=qg5 ([rwA c (bsC c lf)].map ER) [Dt,ER 0,Dt]) (m1:=[ER (.int (x:Nat)),ER (rwA c (bsC c lf)),Dt]) (xs:=["one"]) (CloIn.of [Dt,ER 0,Dt] rfl rfl rfl (by kernel_rfl) (by kernel_rfl) hpc) (λfd h1 h2 h3 us hl=>?_) (Binds.cons (i:=0) rfl (.inl rfl) (.inl rfl) .nil) (λcd env=>?_) (Aq _) rfl
  . obtain ⟨u,rfl⟩:=List.length_eq_one_iff.mp hl;cases fd
    simp only at h1 h2 h3;subst h1 h2 h3;rfl
  . have hx:=qq3 h;have hz:=qg8 (c:=c) (lf:=lf);have hr:=qam F (W:=W) (Y:=λn=>Y n\/σ.length<=n) (k:=k) (fr:=env::fr) (σ:=σ) (qq2 h);have hk:=qba F;show Ev _ _ _ _ _ (.Call (.Name _ _) _ _ _) _ _;exact .(Ev.call .(Iad 2 F.g_law_rate) (hk) (Evs.cons .(Iaa .(Ia5 1) .(Ia0 0) .(Lv.fz) (by exact qbi rfl hx) (by exact hz)) .(Evs.nil)) EvK.nil (hr))
include F in
theorem qvw {x:Nat}(h:x<nB c lf)(k:Nat)(fr:List HA)(Y:Nat->Prop):Calls W Y (k+2) fr σ (.clo la23b.1 ["blocks"] [rwA c (bsC c lf)]) [.int (x:Nat)] [] [] (.int (kyC c lf x)) σ:=by
  have hpc:plains [rwA c (bsC c lf)]=Hq:=by show (plain (rwA c (bsC c lf))&&Hq)=Hq;rw[show plain (rwA c (bsC c lf))=Hq from qao _];rfl
  refine Icg (k:=k+1) (m0:=qg5 ([rwA c (bsC c lf)].map ER) [Dt,ER 0,Dt]) (m1:=[ER (.int (x:Nat)),ER (rwA c (bsC c lf)),Dt]) (xs:=["one"]) (CloIn.of [Dt,ER 0,Dt] rfl rfl rfl (by kernel_rfl) (by kernel_rfl) hpc) (λfd h1 h2 h3 us hl=>?_) (Binds.cons (i:=0) rfl (.inl rfl) (.inl rfl) .nil) (λcd env=>?_) (Aq _) rfl
  . obtain ⟨u,rfl⟩:=List.length_eq_one_iff.mp hl;cases fd
    simp only at h1 h2 h3;subst h1 h2 h3;rfl
  . have hx:=qq3 h;have hz:=qg8 (c:=c) (lf:=lf);have hr:=qam F (W:=W) (Y:=λn=>Y n\/σ.length<=n) (k:=k) (fr:=env::fr) (σ:=σ) (qq2 h);have hk:=qba F;show Ev _ _ _ _ _ (.Call (.Name _ _) _ _ _) _ _;exact .(Ev.call .(Iad 2 F.g_law_rate) (hk) (Evs.cons .(Iaa .(Ia5 1) .(Ia0 0) .(Lv.fz) (by exact qbi rfl hx) (by exact hz)) .(Evs.nil)) EvK.nil (hr))
noncomputable abbrev lsS (σ:List AObj) (A:List Nat):List AObj:=σ ++ [.lst (qaa A)]
include F in
theorem qrc (hj:j<nB c lf)(hY:Y σ.length)(k:Nat)(fr:List HA):Calls W Y (k+4) fr (lsS σ (lnC c lf j)) (qe0 lf) [.loc σ.length,.int (j:Nat)] ["key"] [.clo la23a.1 ["blocks"] [rwA c (bsC c lf)]] .none (lsS σ (lnC c lf (j+1))):=by
  have hA:=qu1 (Bm hj);have hAl:∀x∈lnC c lf j,x<nB c lf:=λx h=>Bc (qko h) hj
  have hn:(lsS σ (lnC c lf j))[σ.length]?=ER (.lst (qaa (lnC c lf j))):=qal (j:=0) rfl;have hl:(qaa (lnC c lf j)).length=(lnC c lf j).length:=Ah _;have hlj:(lnC c lf j).length=j:=by rw[(qfg j).length_eq,AW]
  have hzz:(qaa (lnC c lf j)).length<=Ai:=by rw[hl,hlj,AB];have:nB c lf<=6:=bs_len.2;omega
  have hpp:=qmx (j:=j) hA;have hin:∀{i:Nat} {v:AV},(qaa (lnC c lf j))[i]?=ER v->∃x,(lnC c lf j)[i]?=ER x/\v=.int ((x:Nat):Int):=λh=>by
    rw[Ao,Option.map_eq_some_iff] at h;obtain ⟨y,h1,h2⟩:=h;exact ⟨y,h1,h2.symm⟩
  have hkk:∀(i:Nat) (v:AV),(qaa (lnC c lf j))[i]?=ER v->∀k fr Y,Calls W Y (k+2) fr (lsS σ (lnC c lf j)) (.clo la23a.1 ["blocks"] [rwA c (bsC c lf)]) [v] [] [] (.int (kyC c lf ((lnC c lf j).getD i 0))) (lsS σ (lnC c lf j)):=λi v hv k fr Y=>by
    obtain ⟨x,h1,rfl⟩:=hin hv;rw[qas h1];exact qs8 F (hAl x (Av h1)) k fr Y
  have hat:∀i,i<(qaa (lnC c lf j)).length->(pL (kyC c lf) lf j ((lnC c lf j).getD i 0)=Hq↔i<qfe (pL (kyC c lf) lf j) (lnC c lf j)):=λi hi=>by
    rw[hl] at hi;rw[qas (Aj hi)];exact qet hpp i _ (Aj hi)
  have hle:qfe (pL (kyC c lf) lf j) (lnC c lf j)<=(qaa (lnC c lf j)).length:=by rw[hl];exact qj7 _ _
  have e:(lsS σ (lnC c lf j)).set σ.length (.lst ((qaa (lnC c lf j)).take (qfe (pL (kyC c lf) lf j) (lnC c lf j)) ++ [.int (j:Nat)] ++ (qaa (lnC c lf j)).drop (qfe (pL (kyC c lf) lf j) (lnC c lf j))))=lsS σ (lnC c lf (j+1)):=by
    have:(qaa (lnC c lf j)).take (qfe (pL (kyC c lf) lf j) (lnC c lf j)) ++ [AV.int (j:Nat)] ++ (qaa (lnC c lf j)).drop (qfe (pL (kyC c lf) lf j) (lnC c lf j))=qaa (lnC c lf (j+1)):=by
      show _=qaa (qsa (lnC c lf j) (qfe (pL (kyC c lf) lf j) (lnC c lf j)) j);rw[qsa,qaa,qaa,AT,AT,Ff,List.map_drop];rfl
    rw[this];exact qcw (j:=0) rfl
  cases lf with
  | true=>
    refine Ian (qul F (κ:=λi=>kyC c Hq ((lnC c Hq j).getD i 0)) (kx:=kyC c Hq j) (r:=qfe (pL (kyC c Hq) Hq j) (lnC c Hq j)) (d:=2) (x:=.int (j:Nat)) hn hY hzz hle (λi _ hi=>?_) Kept.clo rfl hkk (λk fr Y=>qs8 F hj k fr Y) rfl k fr) rfl e;rw[<- hat i hi];show _↔decide (_<_)=Hq;rw[decide_eq_true_iff]
  | false=>
    refine Ian (quk F (κ:=λi=>kyC c Hr ((lnC c Hr j).getD i 0)) (kx:=kyC c Hr j) (r:=qfe (pL (kyC c Hr) Hr j) (lnC c Hr j)) (d:=2) (x:=.int (j:Nat)) hn hY hzz hle (λi _ hi=>?_) Kept.clo rfl hkk (λk fr Y=>qs8 F hj k fr Y) rfl k fr) rfl e;have q:=hat i hi;have q2:pL (kyC c Hr) Hr j ((lnC c Hr j).getD i 0)=decide (kyC c Hr ((lnC c Hr j).getD i 0)<=kyC c Hr j):=rfl;rw[q2,decide_eq_true_iff] at q;show kyC c Hr j<kyC c Hr ((lnC c Hr j).getD i 0)↔_
    grind
end
end
section
section
variable (c:Nat->Int) (lf:Bool) (n ln:Nat)
noncomputable abbrev toV:AV:=.lst ((Ae (nB c lf)).map λ_=>AV.none)
noncomputable def lp3:List (Option AV):=(lp2 c lf n ln).set 16 (ER (toV c lf))
noncomputable abbrev lpC:List (Option AV):=[Dt,Dt,ER (rwA c (bsC c lf)),ER (.loc ln),ER (qe0 lf)]
end
section
variable (F:Fac W) {ln:Nat}
include F in
theorem qkj:Kept W (qe0 lf):=(qwb F lf (g:=dI (λ_=>0)) (h:=dI (λ_=>0))).1
theorem qi3:nB c lf<=6:=bs_len.2
theorem qeq:(qax (dI c) (eI c) (bsC c lf)).length=nB c lf:=Ah _
include F in
theorem qt3 (hK:qos W cd)(hY:Y σ.length):Ex ⟨W,Y,nm23.1,cd⟩ (k+4) fr (lp2 c lf n σ.length) (lsS σ []) (nth bo237.1 4) .next (lp3 c lf n σ.length) (lsS σ (lnC c lf (nB c lf))):=by
  obtain ⟨lc,lP,hLam⟩:=hK;have hkp:=qkj F (lf:=lf);have hnl:=qi3 (c:=c) (lf:=lf);have hz:=qg8 (c:=c) (lf:=lf);have hrl:=qeq (c:=c) (lf:=lf);have hb1:-(2 ^ 62)<=(((qax (dI c) (eI c) (bsC c lf)).length:Nat):Int)/\(((qax (dI c) (eI c) (bsC c lf)).length:Nat):Int)<2 ^ 62:=by rw[hrl];omega
  show Ex _ _ _ _ _ (.Assign [.Name _ _] (.ListComp _ (⟨_,_,_,0⟩::_) _ _) _) _ _ _;refine Iar (i:=16) (mc:=lpC c lf σ.length) (z1:=lsS σ []) (ai:=.range 0 1 (((qax (dI c) (eI c) (bsC c lf)).length:Nat):Int).toNat) (m0:=lpC c lf σ.length) rfl ?_ (CompIn.of [Dt,Dt,ER 32,ER 14,ER 12] (by kernel_rfl) (by kernel_rfl)) ?_ (qa9 (λ_=>rfl) _)
  . exact .(ItE.call .(Iah 43 F.b_range) .(Kept.type) (Evs.cons .(Ev.call .(Iah 45 F.b_len) .(Kept.builtin) (Evs.cons .(Ia5 32) .(Evs.nil)) EvK.nil (Calls.len Lv.fz hz)) .(Evs.nil)) (Iaz hb1))
  . refine Id3 (ai:=.range 0 1 (((qax (dI c) (eI c) (bsC c lf)).length:Nat):Int).toNat) rfl rfl ((Ae (nB c lf)).map λi:Nat=>AV.int (0+(i:Nat)*1)) (λj=>lsS σ (lnC c lf j)) (λ_=>AV.none) (λj=>(lpC c lf σ.length).set 1 (ER (.int ((j:Nat):Int)))) ?_ (λj=>Bo) rfl (by with_unfolding_all exact np) (λj v hv=>?_) (λj v hv=>?_) (λj _=>rfl) (λj=>Weak.set rfl) ?_ rfl ?_ ?_
    . rw[hrl];rfl
    . rw[Ao] at hv;obtain ⟨i,h1,rfl⟩:=Option.map_eq_some_iff.mp hv;obtain ⟨hj,rfl⟩:j<nB c lf/\i=j:=by
        have:=Ar.mp h1;obtain ⟨h2,h3⟩:=this;rw[List.getElem_range] at h3;exact ⟨by rwa[AW] at h2,h3.symm⟩
      rw[qw5];show As _ _ _ _ _ (.Name _ _) _ _ _;exact .(Ia3 1)
    . have hj:j<nB c lf:=by
        have:=(Ar.mp hv).1;rwa[Ah,AW] at this
      have hc:=qrc F (W:=W) (Y:=Y) (σ:=σ) hj hY k fr;show Ev _ _ _ _ _ (.Call (.Name _ _) _ _ _) _ _;exact .(Ev.call .(Ia5 4) (hkp) (Evs.cons .(Ia5 3) .((Evs.cons .(Ia0 1) .(Evs.nil)))) (EvK.cons .((Ied (ns:=["blocks"]) (caps:=[rwA c (bsC c lf)]) (hLam _ _) (LamCap.of [(1,2)] (by kernel_rfl) Uu (by kernel_rfl)))) .(EvK.nil)) ((by with_unfolding_all exact hc)))
    . rw[Ah,AW];omega
    . rw[Ah,AW]
    . rw[Ah,AW]
include F in
theorem qt2 (hK:qos W cd):Ex ⟨W,Y,nm23.1,cd⟩ (k+4) fr (lp3 c lf n σ.length) (lsS σ (lnC c lf (nB c lf))) (nth bo237.1 5) .next (lp3 c lf n σ.length) (lsS σ (lnC c lf (nB c lf))):=by
  obtain ⟨lc,lP,hLam⟩:=hK;have hnl:=qi3 (c:=c) (lf:=lf);have hz:=qg8 (c:=c) (lf:=lf);have hrl:=qeq (c:=c) (lf:=lf);have hm0:(0:Int)<=(((qax (dI c) (eI c) (bsC c lf)).length:Nat):Int):=BA _;have hm1:(((qax (dI c) (eI c) (bsC c lf)).length:Nat):Int)<2 ^ 24:=by rw[hrl];omega
  have hm2:[AV.none].length*(((qax (dI c) (eI c) (bsC c lf)).length:Nat):Int).toNat<=2 ^ 24:=by rw[hrl,DY,Ba];omega
  have hmv:AV.lst (AR (((qax (dI c) (eI c) (bsC c lf)).length:Nat):Int).toNat [AV.none]).flatten=toV c lf:=by
    rw[hrl,DY,List.flatten_replicate_singleton,toV,List.map_const',AW]
  have hdt:D1 64 (toV c lf):=D1.lst (d:=63) λ_ _=>⟨rfl,AJ _⟩
  have hne1:Hr=Hq↔toV c lf≠toV c lf:=⟨nofun,λq=>absurd rfl q⟩
  have hs0:ER (if lf then (-1:Int) else 1)≠ER 0:=by cases lf <;> decide
  have hln:(lsS σ (lnC c lf (nB c lf)))[σ.length]?=ER (.lst (qaa (lnC c lf (nB c lf)))):=qal (j:=0) rfl;have hsz:((Ae (nB c lf)).map λi:Nat=>AV.int (i:Nat)).length<=Ai:=by rw[Ah,AW,AB];simp_all
  have hsl:=qrf (lf:=lf) hnl;obtain ⟨l,hl⟩:∃l,l=if lf then (Ae (nB c lf)).reverse else Ae (nB c lf):=⟨_,rfl⟩
  rw[<- hl] at hsl;have hll:∀x∈l,x<nB c lf:=λx hx=>Au.mp ((qmr l hl).2.mem_iff.mp hx)
  have hlz:l.length<=6:=by rw[(qmr l hl).2.length_eq,AW];exact hnl
  have hr:∀(l:Lam) (ns:List Hv) (cs:List AV) (g:Ht->Own) (h:Heap) (u:Hw),RV W g h (.clo l ns cs) u->∃q,u=.ref q:=λl ns cs g h u r=>by obtain ⟨a,fd,vs,e,_⟩:=r;exact ⟨a,e⟩
  have c1:Calls W Y (k+4) fr (lsS σ (lnC c lf (nB c lf))) (.glob (.builtin "sorted")) [.lst (qaa l)] ["key"] [.clo la23b.1 ["blocks"] [rwA c (bsC c lf)]] (.lst (qaa (lnC c lf (nB c lf)))) (lsS σ (lnC c lf (nB c lf))):=by
    rw[<- qml (Aq _) hl];refine Ick (k:=k+2) (keys:=qa0 (l.map (kyC c lf))) (l:=qaa l) rfl (hr _ _ _) Lv.fz (by rw[Ah];lia) (by rw[qa0,Ah,Ah,Ah]) (λi x y hx hy=>?_) (qc5 _) (qa9 (λ_=>rfl) _) KeyOk.ints (SWO.ints (f:=λi=>(l.map (kyC c lf)).getD i 0));rw[Ao] at hx;obtain ⟨p,hp,rfl⟩:=Option.map_eq_some_iff.mp hx;rw[qa0,Ao,Ao,hp] at hy;obtain rfl:=Sj hy;exact qvw F (hll p (Av hp)) k fr noY
  have hdl:Dv (lsS σ (lnC c lf (nB c lf))) (.loc σ.length) (.lst (qaa (lnC c lf (nB c lf)))):=Ic1 hln (qg4 _);have hne2:Hr=Hq↔AV.lst (qaa (lnC c lf (nB c lf)))≠.lst (qaa (lnC c lf (nB c lf))):=⟨nofun,λq=>absurd rfl q⟩
  have hd2:Dv (lsS σ (lnC c lf (nB c lf))) (.lst (qaa (lnC c lf (nB c lf)))) (.lst (qaa (lnC c lf (nB c lf)))):=Dv.of (qg4 _);have hcl:Calls W Y (k+4) fr (lsS σ (lnC c lf (nB c lf))) (.glob (.builtin "len")) [rwA c (bsC c lf)] [] [] (.int ((nB c lf:Nat):Int)) (lsS σ (lnC c lf (nB c lf))):=hrl ▸ Calls.len Lv.fz hz;show Ex _ _ _ _ _ (.If _ _ _ _) _ _ _;exact .(Ia6 (c:=Hr) .(Iab .(Ib3 .(Ibt .(Tr.cmp .(Ia0 16) .(Iag .(Ia2 .(Ev.list (Evs.cons .(Iac) .(Evs.nil))) .(Ev.call .(Iah 45 F.b_len) .(Kept.builtin) (Evs.cons .(Ia5 32) .(Evs.nil)) EvK.nil (Calls.len Lv.fz hz)) (Ie0 Lv.fz hm0 hm1 hm2)) (hmv)) (Op2.ne (c:=Hr) (Dv.of hdt) (Dv.of hdt) hne1)) (λ_=>.(Ib9 .(Tr.cmp .(Ia5 14) .(Ev.call .(Iah 42 F.b_sorted) .(Kept.builtin) (Evs.cons .(Iag .(Iav .(Icr .(Iah 46 F.b_list) .(Iah 43 F.b_range) (Evs.cons .(Ev.call .(Iah 45 F.b_len) Kept.builtin (Evs.cons .(Ia5 32) .(Evs.nil)) EvK.nil hcl) .(Evs.nil)) (Af hnl (by decide))) EvO.none EvO.none (Iau .(Ia0 13)) Lv.fz hs0 hsz) hsl) .(Evs.nil)) (EvK.cons .((Ied (ns:=["blocks"]) (caps:=[rwA c (bsC c lf)]) (hLam _ _) (LamCap.of [(1,32)] (by kernel_rfl) Uu (by kernel_rfl)))) .(EvK.nil)) ((by with_unfolding_all exact c1))) (Op2.ne (c:=Hr) hdl hd2 hne2)))) (λ_=>rfl))) (show (Hr||false)=Hr from rfl)) (λh=>nomatch h) (λ_=>.(Exs.nil)))
include F in
theorem qt1 {m:List (Option AV)}{L:List AV}(hn:σ[n]?=ER (.lst L))(hY:Y n)(hz:L.length<=1000):Ex ⟨W,Y,nm23.1,cd⟩ k fr (lp3 c lf n ln) σ (nth bo237.1 6) .next (lp3 c lf n ln) (σ.set n (.lst (L ++ [rwA c (bsC c lf)]))):=by
  have hp:plain (rwA c (bsC c lf))=Hq:=qao _;have hc:=Calls.append (W:=W) (Y:=Y) (k:=k) (fr:=fr) hn hY hp (szl hz);unfold lp3 lp2 lp1;generalize rwA c (bsC c lf)=V at *;show Ex _ _ _ _ _ (.Expr _ _) _ _ _;exact .(Ex.expr .(Iaj .(Ia0 11) (Meth.append (Lv.loc hn)) .(Kept.builtin) (Evs.cons .(Ia5 32) .(Evs.nil)) (by with_unfolding_all exact (hc))))
end
end
section
noncomputable def lfC (c:Nat->Int):Bool:=decide ((c 6).fmod 2=0)
noncomputable abbrev raB (c:Nat->Int) (lf:Bool):List Int:=(bsC c lf).map λB=>-(rat (dI c) (eI c) 12252240 B)
noncomputable abbrev rwV (c:Nat->Int):AV:=rwA c (bsC c (lfC c))
noncomputable abbrev nC (c:Nat->Int):Nat:=nB c (lfC c)
noncomputable abbrev raC (c:Nat->Int):List Int:=raB c (lfC c)
noncomputable abbrev fiC (c:Nat->Int):Int:=(c 4).fmod ((nC c:Nat):Int)
noncomputable abbrev beC (c:Nat->Int):Int:=fiC c+(c 3).fmod (((nC c:Nat):Int)+1 - fiC c)
theorem qo1 (c:Nat->Int):∃a b:Nat,fiC c=a/\beC c=b/\a<=b/\b<=nC c:=by
  have h0:=(bs_len (c:=c) (lf:=lfC c)).1;have p1:(0:Int)<((nC c:Nat):Int):=Fq.mpr h0;have h1:=CX (c 4) p1;have h2:=Ew (c 4) p1;have p2:(0:Int)<((nC c:Nat):Int)+1 - fiC c:=by show 0<((nC c:Nat):Int)+1 - (c 4).fmod ((nC c:Nat):Int);omega
  have h3:=CX (c 3) p2;have h4:=Ew (c 3) p2;refine ⟨(fiC c).toNat,(beC c).toNat,(FC h1).symm,(FC (Int.add_nonneg h1 h3)).symm,?_,?_⟩
  . exact Int.toNat_le_toNat (Int.le_add_of_nonneg_right h3)
  . have:beC c<((nC c:Nat):Int)+1:=by
      show fiC c+_<_;omega
    omega
noncomputable abbrev qcu (c:Nat->Int) (lf:Bool):AObj:=.lst (qaa (lnC c lf (nB c lf)))
noncomputable abbrev qhq (c:Nat->Int):AObj:=.lst [rwA c (bsC c Hq),rwA c (bsC c Hr)]
section
variable (c:Nat->Int) (n:Nat)
noncomputable def lm8:List (Option AV):=(lm6 c n).set 32 (ER (rwV c))
noncomputable def lm9:List (Option AV):=(lm8 c n).set 17 (ER (.lst (qa0 (raC c))))
noncomputable def lmA:List (Option AV):=(lm9 c n).set 18 (ER (.int (fiC c)))
noncomputable def lmB:List (Option AV):=[Dt,Dt,ER (.lst (qae c)),Dt,ER (.lst (qab c)),ER (.loc 2),ER (.bool Hq),ER (.lst (stL c 6)),ER (.int (wC c 63)),ER (.int ((c 6).fmod 27)),ER (.int (((c 6).fdiv 27).fmod 13 - 4)),ER (.loc n),Dt,Dt,Dt,Dt,Dt,ER (.lst (qa0 (raC c))),ER (.int (fiC c)),ER (.int (beC c)),Dt,Dt,Dt,Dt,Dt,Dt,Dt,Dt,Dt,Dt,Dt,Dt,ER (rwV c),Dt,Dt,Dt,Dt,Dt,Dt,Dt,Dt,Dt,Dt,Dt,Dt,Dt,Dt,Dt,Dt,Dt,Dt,Dt,Dt,Dt,Dt]
end
section
variable (F:Fac W)
include F in
theorem qk9 (hK:qos W cd)(hY:∀m,Y m)(D:DocS c 2 σ)(hr:σ[2]?=ER (.lst ((Ae 6).map λs=>.loc (2+7+5*s+2)))){L:List AV}(hn:σ[n]?=ER (.lst L))(hz:L.length<=1000):
    Exs ⟨W,Y,nm23.1,cd⟩ (k+11) fr (lp0 c lf n) σ bo237.1 .next (lm6 c n) ((σ ++ [qcu c lf]).set n (.lst (L ++ [rwA c (bsC c lf)]))):=by
  have hb:bo237.1=[nth bo237.1 0,nth bo237.1 1,nth bo237.1 2,nth bo237.1 3,nth bo237.1 4,nth bo237.1 5,nth bo237.1 6]:=by kernel_rfl
  rw[hb];have h0:=qt7 F (W:=W) (Y:=Y) (cd:=cd) (k:=k) (fr:=fr) (lf:=lf) (n:=n) D hr rfl;have h1:=qt6 F (W:=W) (Y:=Y) (cd:=cd) (k:=k+11) (fr:=fr) (c:=c) (lf:=lf) (n:=n) (ln:=σ.length) (σ:=lsS σ []);have h2:=qt5 F (W:=W) (Y:=Y) (cd:=cd) (k:=k+11) (fr:=fr) (c:=c) (lf:=lf) (n:=n) (ln:=σ.length) (σ:=lsS σ []);have h3:=qt4 F (W:=W) (Y:=Y) (cd:=cd) (k:=k+10) (fr:=fr) (c:=c) (lf:=lf) (n:=n) (ln:=σ.length) (σ:=lsS σ []);have h4:=qt3 F (W:=W) (Y:=Y) (cd:=cd) (k:=k+7) (fr:=fr) (c:=c) (lf:=lf) (n:=n) hK (hY σ.length);have h5:=qt2 F (W:=W) (Y:=Y) (cd:=cd) (k:=k+7) (fr:=fr) (σ:=σ) (c:=c) (lf:=lf) (n:=n) hK;have h6:=qt1 F (W:=W) (Y:=Y) (cd:=cd) (k:=k+11) (fr:=fr) (c:=c) (lf:=lf) (ln:=σ.length) (m:=[]) (qa6 (τ:=[qcu c lf]) hn) (hY n) hz;have hw:Weak (lp3 c lf n σ.length) (lm6 c n):=by
    unfold lp3 lp2 lp1 lp0
    with_unfolding_all exact Ia8 (Ia8 (Ia8 (Ia8 (Ia8 (Weak.set rfl) rfl) rfl) rfl) rfl) rfl
  exact Exs.post (Exs.cons h0 (Exs.cons h1 (Exs.cons h2 (Exs.cons h3 (Exs.cons h4 (Exs.cons h5 (Exs.cons h6 Exs.nil))))))) hw
include F in
theorem qu4 (hK:qos W cd)(hY:∀m,Y m)(D:DocS c 2 σ)(hr:σ[2]?=ER (.lst ((Ae 6).map λs=>.loc (2+7+5*s+2)))):Ex ⟨W,Y,nm23.1,cd⟩ (k+11) fr (lm6 c σ.length) (σ ++ [.lst []]) (nth bd23.1 7) .next (lm6 c σ.length) (σ ++ [qhq c,qcu c Hq,qcu c Hr]):=by
  have g1:(σ ++ [AObj.lst []])[σ.length]?=ER (.lst []):=qal (j:=0) rfl;have t1:=qk9 F (W:=W) (Y:=Y) (cd:=cd) (k:=k) (fr:=fr) (c:=c) (lf:=Hq) hK hY (D.app (τ:=[.lst []])) (qa6 hr) g1 (AJ _);have e1:(σ ++ [AObj.lst []] ++ [qcu c Hq]).set σ.length (.lst ([] ++ [rwA c (bsC c Hq)]))=σ ++ [.lst [rwA c (bsC c Hq)],qcu c Hq]:=by
    rw[AF];exact qcw (j:=0) rfl
  rw[e1] at t1;have g2:(σ ++ [AObj.lst [rwA c (bsC c Hq)],qcu c Hq])[σ.length]?=ER (.lst [rwA c (bsC c Hq)]):=qal (j:=0) rfl;have t2:=qk9 F (W:=W) (Y:=Y) (cd:=cd) (k:=k) (fr:=fr) (c:=c) (lf:=Hr) hK hY (D.app (τ:=[.lst [rwA c (bsC c Hq)],qcu c Hq])) (qa6 hr) g2 (by exact (by decide:1<=1000));have e2:(σ ++ [AObj.lst [rwA c (bsC c Hq)],qcu c Hq] ++ [qcu c Hr]).set σ.length (.lst ([rwA c (bsC c Hq)] ++ [rwA c (bsC c Hr)]))=σ ++ [qhq c,qcu c Hq,qcu c Hr]:=by
    rw[AF];exact qcw (j:=0) rfl
  rw[e2] at t2;have as:∀(lf:Bool) (z2:List AObj),As ⟨W,Y,nm23.1,cd⟩ (k+11) fr (lm6 c σ.length) z2 ta237.1 (.tup [qe0 lf,qsw lf]) (lp0 c lf σ.length) z2:=λlf z2=>by
    unfold lp0;show As _ _ _ _ _ (.Tuple _ _ _) _ _ _;exact .(As.tuple .(AsL.cons .(Ibz 12) .(AsL.cons .(Ia3 13) .(AsL.nil))))
  have hl:ForC ⟨W,Y,nm23.1,cd⟩ (k+11) fr ta237.1 bo237.1 [] (.tup [.tup [qe0 Hq,qsw Hq],.tup [qe0 Hr,qsw Hr]]) 0 (lm6 c σ.length) (σ ++ [.lst []]) .next (lm6 c σ.length) (σ ++ [qhq c,qcu c Hq,qcu c Hr]):=
    ForC.next Bo rfl rfl nofun (as Hq _) t1 (ForC.next Bo rfl rfl nofun (as Hr _) t2 (ForC.done Bo rfl Exs.nil))
  have hit:ItE ⟨W,Y,nm23.1,cd⟩ (k+11) fr (lm6 c σ.length) (σ ++ [.lst []]) (qf3 (nth bd23.1 7)) (.tup [.tup [qe0 Hq,qsw Hq],.tup [qe0 Hr,qsw Hr]]) (σ ++ [.lst []]):=by
    show ItE _ _ _ _ _ (.Tuple [.Tuple _ _ _,.Tuple _ _ _] _ _) (.tup [.tup [.glob (.ref A3),.int (-1)],.tup [.glob (.ref A1),.int 1]]) _;exact .(ItE.tuple .(Ev.tuple (Evs.cons .(Ev.tuple (Evs.cons .(Iad 39 F.g_insort_left) .((Evs.cons .(Icq .(Ia1)) .(Evs.nil))))) .((Evs.cons .(Ev.tuple (Evs.cons .(Iad 40 F.g_insort_right) .((Evs.cons .(Ia1) .(Evs.nil))))) .(Evs.nil))))))
  show Ex _ _ _ _ _ (.For _ _ _ _ _) _ _ _;exact .(Ib2 (by with_unfolding_all exact hit) (by with_unfolding_all exact ForC.pre hl (by exact Weak.refl)))
theorem qi6:Calls W Y k fr σ (.glob (.builtin "len")) [rwA c (bsC c lf)] [] [] (.int ((nB c lf:Nat):Int)) σ:=by
  have:=Calls.len (W:=W) (Y:=Y) (k:=k) (fr:=fr) (σ:=σ) (Lv.fz (l:=qax (dI c) (eI c) (bsC c lf))) qg8;rwa[qeq] at this
include F in
theorem qu3 (hn:σ[n]?=ER (qhq c)):Ex ⟨W,Y,nm23.1,cd⟩ k fr (lm6 c n) σ (nth bd23.1 8) .next (lm8 c n) σ:=by
  have hz7:(qae c).length<=Ai:=by exact (by decide:7<=Ai)
  have hz2:[rwA c (bsC c Hq),rwA c (bsC c Hr)].length<=Ai:=by exact (by decide:2<=Ai)
  have h6:=qds (c:=c) (t:=6) (by decide);have hx:∃j,Di ((c 6).fmod 2) [rwA c (bsC c Hq),rwA c (bsC c Hr)].length=ER j/\[rwA c (bsC c Hq),rwA c (bsC c Hr)][j]?=ER (rwV c):=by
    obtain ⟨m,e,hm⟩:=qpp (x:=c 6) (n:=2) (by decide);have e:(c 6).fmod 2=m:=e;match m,hm with
    | 0,_=>exact qbi (j:=0) e (by show ER (rwA c (bsC c Hq))=ER (rwA c (bsC c (decide ((c 6).fmod 2=0))));rw[e];rfl)
    | 1,_=>exact qbi (j:=1) e (by show ER (rwA c (bsC c Hr))=ER (rwA c (bsC c (decide ((c 6).fmod 2=0))));rw[e];rfl)
  have hp:plain (rwV c)=Hq:=qao _;have hL:=Lv.loc hn;unfold lm8;generalize rwV c=V at *;have h:Ex ⟨W,Y,nm23.1,cd⟩ k fr (lm6 c n) σ (nth bd23.1 8) .next ((lm6 c n).set 32 (ER V)) σ:=by
    show Ex _ _ _ _ _ (.Assign _ _ _) _ _ _;exact .(Ia4 .(Iaa .(Ia0 11) .(Ia2 .(Iaa .(Ia0 2) .(Ia1) .(Lv.fz) (by exact qbi rfl h6) (by exact hz7)) .(Ia1) .(Iat (by decide))) (by exact hL) (by exact hx) (by exact hz2)) .(Ibz 32 (hp:=(by assumption))))
  exact h
include F in
theorem qu2:Ex ⟨W,Y,nm23.1,cd⟩ (k+1) fr (lm8 c n) σ (nth bd23.1 9) .next (lm9 c n) σ:=by
  have hz:(bsC c (lfC c)).length<=2 ^ 20:=Af qi3 (by decide);have hk:=qba F;have hb:∀B∈bsC c (lfC c),Bk (dI c) (eI c) B:=t6.bks;have hc:=λB (hB:B∈bsC c (lfC c))=>qam F (W:=W) (Y:=Y) (k:=k) (fr:=fr) (σ:=σ) (hb B hB)
  have hpp:plain (rwV c)=Hq:=qao _;have hv:AV.lst ((bsC c (lfC c)).map λB=>AV.int (-(rat (dI c) (eI c) 12252240 B)))=.lst (qa0 (raC c)):=by rw[qa0,BL];rfl
  show Ex _ _ _ _ _ _ _ ((lm8 c n).set 17 (ER (.lst (qa0 (raC c))))) _;rw[<- hv];show Ex _ _ _ _ _ (.Assign _ _ _) _ _ _;exact .(Iar (i:=17) Uu .(ItE.list .(Ia5 32) .(Lv.fz)) (CompIn.of [Dt,Dt,Dt] (by kernel_rfl) (by kernel_rfl)) .(CompC.map Uu (bsC c (lfC c)) (qdm (dI c) (eI c)) ((λB=>AV.int (-(rat (dI c) (eI c) 12252240 B)))) _ (λx hx=>.(Ia3 1 (hp:=.(qay _)))) (λx hx=>.(Ev.call .(Iad 2 F.g_law_rate) (hk) (Evs.cons .(Ia0 1) .(Evs.nil)) EvK.nil (hc x hx))) .(λ_=>Weak.set Uu) (hp:=by with_unfolding_all assumption) (hz:=by exact hz)) .(qa9 (λ_=>Uu) _))
include F in
theorem qrz:Ex ⟨W,Y,nm23.1,cd⟩ k fr (lm9 c n) σ (nth bd23.1 10) .next (lmA c n) σ:=by
  have hz:=qg8 (c:=c) (lf:=lfC c);have hz7:(qae c).length<=Ai:=by exact (by decide:7<=Ai)
  have h4:=qds (c:=c) (t:=4) (by decide);have hcl:Calls W Y k fr σ (.glob (.builtin "len")) [rwV c] [] [] (.int ((nC c:Nat):Int)) σ:=qi6;have hne:((nC c:Nat):Int)≠0:=by have:0<nC c:=(bs_len (c:=c) (lf:=lfC c)).1;omega
  show Ex _ _ _ _ _ _ _ ((lm9 c n).set 18 (ER (.int (fiC c)))) _;show Ex _ _ _ _ _ (.Assign _ _ _) _ _ _;exact .(Ia4 .(Ia2 .(Iaa .(Ia0 2) .(Ia1) .(Lv.fz) (by exact qbi rfl h4) (by exact hz7)) .(Ev.call .(Iah 45 F.b_len) .(Kept.builtin) (Evs.cons .(Ia5 32) .(Evs.nil)) EvK.nil (hcl)) (Iat hne)) .(Ibz 18))
include F in
theorem qry:Ex ⟨W,Y,nm23.1,cd⟩ k fr (lmA c n) σ (nth bd23.1 11) .next (lmB c n) σ:=by
  have hz:=qg8 (c:=c) (lf:=lfC c);have hz7:(qae c).length<=Ai:=by exact (by decide:7<=Ai)
  have h3:=qds (c:=c) (t:=3) (by decide);have hcl:Calls W Y k fr σ (.glob (.builtin "len")) [rwV c] [] [] (.int ((nC c:Nat):Int)) σ:=qi6;have hne:((nC c:Nat):Int)+1 - fiC c≠0:=by
    obtain ⟨a,b,h1,h2,h3,h4⟩:=qo1 c;rw[h1];omega
  show Ex _ _ _ _ _ _ _ ((lmA c n).set 19 (ER (.int (beC c)))) _;show Ex _ _ _ _ _ (.Assign _ _ _) _ _ _;exact .(Ia4 .(Ia2 .(Ia5 18) .(Ia2 .(Iaa .(Ia0 2) .(Ia1) .(Lv.fz) (by exact qbi rfl h3) (by exact hz7)) .(Ia2 .(Ia2 .(Ev.call .(Iah 45 F.b_len) .(Kept.builtin) (Evs.cons .(Ia5 32) .(Evs.nil)) EvK.nil (hcl)) .(Ia1) .(Op2.add)) .(Ia5 18) .(Op2.sub)) (Iat hne)) .(Op2.add)) .(Ibz 19))
end
end
section
section
variable (c:Nat->Int) (x:Int)
noncomputable abbrev kyL (j:Nat):Int:=kyC c (lfC c) j
noncomputable def p1C:Nat:=qfe (λj=>decide (kyL c j<x)) (Ae (nC c))
noncomputable def p2C:Nat:=qfe (λj=>decide (kyL c j<=x)) (Ae (nC c))
end
section
variable {x:Int}
theorem qmz (h:j<nC c):kyL c j<x↔j<p1C c x:=by
  have hm:(Ae (nC c)).Pairwise λa b=>decide (kyL c b<x)=Hq->decide (kyL c a<x)=Hq:=Cj.imp_of_mem λ{a b} ha hb hab q=>decide_eq_true (DH (qjg a b (Bm hab) (Au.mp hb)) (of_decide_eq_true q))
  have:=qet hm j j (Dy h);rwa[decide_eq_true_iff] at this
theorem qtl (h:j<nC c):kyL c j<=x↔j<p2C c x:=by
  have hm:(Ae (nC c)).Pairwise λa b=>decide (kyL c b<=x)=Hq->decide (kyL c a<=x)=Hq:=Cj.imp_of_mem λ{a b} ha hb hab q=>decide_eq_true (CE (qjg a b (Bm hab) (Au.mp hb)) (of_decide_eq_true q))
  have:=qet hm j j (Dy h);rwa[decide_eq_true_iff] at this
theorem qtm:p1C c x<=nC c:=Af (qj7 _ _) (Bn AW)
theorem qtk:p2C c x<=nC c:=Af (qj7 _ _) (Bn AW)
theorem qs3 (h:j<nC c):(qa0 (raC c))[j]?=ER (.int (kyL c j)):=by
  rw[qa0,BL,Ao,Aj h];show _=ER (AV.int (-(rat (dI c) (eI c) 12252240 ((bsC c (lfC c)).getD j []))));rw[qas (Aj h)];rfl
theorem qgh:(qa0 (raC c)).length=nC c:=by rw[qa0,Ah,Ah]
theorem qox:(qa0 (raC c)).length<=Ai:=by rw[qgh,AB];have:nC c<=6:=qi3;omega
variable (F:Fac W)
include F in
theorem qwi:qom W 1 (λ_=>False) (λ_:Unit=>σ) (λ_=>True) (.glob (.ref A19)) (rwV c) (qax (dI c) (eI c) (bsC c (lfC c))) (kyL c):=
  ⟨qba F,rfl,λ_ _=>.inl rfl,λj v hv=>Ibk λk fr Y=>by
    have hj:j<nC c:=by
      have:=(Ar.mp hv).1;rwa[qeq] at this
    rw[qq3 hj] at hv;obtain rfl:=Sj hv;exact qam F (qq2 hj)⟩
include F in
theorem qqv {lo:Nat}(hH:(H=.none/\hi=nC c)\/H=.int (hi:Nat))(hhi:hi<=nC c)(h1:lo<=r)(h2:r<=hi)(hr:∀j:Nat,lo<=j->j<hi->(kyL c j<x↔j<r))(B:FnB W NoK nm4.1 bd4.1 A4 args ["key"] [.glob (.ref A19)] [ER (rwV c),ER (.int x),ER (.int ((lo:Nat):Int)),ER H,ER (.glob (.ref A19)),Dt,Dt,Dt])(k:Nat)(fr:List HA)(Y:Nat->Prop):Calls W Y (k+2) fr σ (.glob (.ref A4)) args ["key"] [.glob (.ref A19)] (.int (r:Nat)) σ:=by
  have hl:=qeq (c:=c) (lf:=lfC c);obtain ⟨_,_,h⟩:=qva F (s:=()) (qwi F (σ:=σ) (c:=c)) trivial (λ_ _=>rfl) qg8 (hl ▸ hH) (hl ▸ hhi) h1 h2 hr B;exact h k fr Y nofun
include F in
theorem qqu {lo:Nat}(hH:(H=.none/\hi=nC c)\/H=.int (hi:Nat))(hhi:hi<=nC c)(h1:lo<=r)(h2:r<=hi)(hr:∀j:Nat,lo<=j->j<hi->(x<kyL c j↔r<=j))(B:FnB W NoK nm2.1 bd2.1 A2 args ["key"] [.glob (.ref A19)] [ER (rwV c),ER (.int x),ER (.int ((lo:Nat):Int)),ER H,ER (.glob (.ref A19)),Dt,Dt,Dt])(k:Nat)(fr:List HA)(Y:Nat->Prop):Calls W Y (k+2) fr σ (.glob (.ref A2)) args ["key"] [.glob (.ref A19)] (.int (r:Nat)) σ:=by
  have hl:=qeq (c:=c) (lf:=lfC c);obtain ⟨_,_,h⟩:=qv7 F (s:=()) (qwi F (σ:=σ) (c:=c)) trivial (λ_ _=>rfl) qg8 (hl ▸ hH) (hl ▸ hhi) h1 h2 hr B;exact h k fr Y nofun
theorem qoy (h:j<nC c):x<kyL c j↔p2C c x<=j:=by
  have:=qtl (x:=x) h;lia
end
noncomputable abbrev hdC (r a b:Nat):Nat:=min (max r a) b
theorem qnt {a:Nat}(h:a<=b):a<=hdC r a b/\hdC r a b<=b/\∀j,a<=j->j<b->(j<r↔j<hdC r a b):=by
  unfold hdC;exact ⟨by lia,by grind,λj h1 h2=>by lia⟩
section
variable (c:Nat->Int) (n:Nat) (x:Int)
noncomputable abbrev plV:AV:=.lst [.int (p1C c x:Nat),.int (p2C c x:Nat)]
noncomputable abbrev woV:AV:=.lst (qa0 ((qc4 (qaw c) 6).map (wvF (dI c) (eI c) x)))
noncomputable abbrev beV:Int:=qlu (dI c) (eI c) 12252240 x (bsC c (lfC c))
noncomputable def lx0:List (Option AV):=[Dt,ER (.int x),ER (.lst (qae c)),Dt,ER (.lst (qab c)),ER (.loc 2),ER (.bool Hq),ER (.lst (stL c 6)),ER (.int (wC c 63)),ER (.int ((c 6).fmod 27)),ER (.int (((c 6).fdiv 27).fmod 13 - 4)),ER (.loc n),Dt,Dt,Dt,Dt,Dt,ER (.lst (qa0 (raC c))),ER (.int (fiC c)),ER (.int (beC c)),Dt,Dt,Dt,Dt,Dt,Dt,Dt,Dt,Dt,Dt,Dt,Dt,ER (rwV c),Dt,Dt,Dt,Dt,Dt,Dt,Dt,Dt,Dt,Dt,Dt,Dt,Dt,Dt,Dt,Dt,Dt,Dt,Dt,Dt,Dt,Dt]
noncomputable def lx1:List (Option AV):=[Dt,ER (.int x),ER (.lst (qae c)),Dt,ER (.lst (qab c)),ER (.loc 2),ER (.bool Hq),ER (.lst (stL c 6)),ER (.int (wC c 63)),ER (.int ((c 6).fmod 27)),ER (.int (((c 6).fdiv 27).fmod 13 - 4)),ER (.loc n),Dt,Dt,Dt,Dt,Dt,ER (.lst (qa0 (raC c))),ER (.int (fiC c)),ER (.int (beC c)),ER (plV c x),Dt,Dt,Dt,Dt,Dt,Dt,Dt,Dt,Dt,Dt,Dt,ER (rwV c),Dt,Dt,Dt,Dt,Dt,Dt,Dt,Dt,Dt,Dt,Dt,Dt,Dt,Dt,Dt,Dt,Dt,Dt,Dt,Dt,Dt,Dt]
noncomputable def lx2:List (Option AV):=[Dt,ER (.int x),ER (.lst (qae c)),Dt,ER (.lst (qab c)),ER (.loc 2),ER (.bool Hq),ER (.lst (stL c 6)),ER (.int (wC c 63)),ER (.int ((c 6).fmod 27)),ER (.int (((c 6).fdiv 27).fmod 13 - 4)),ER (.loc n),Dt,Dt,Dt,Dt,Dt,ER (.lst (qa0 (raC c))),ER (.int (fiC c)),ER (.int (beC c)),ER (plV c x),ER (woV c x),Dt,Dt,Dt,Dt,Dt,Dt,Dt,Dt,Dt,Dt,ER (rwV c),Dt,Dt,Dt,Dt,Dt,Dt,Dt,Dt,Dt,Dt,Dt,Dt,Dt,Dt,Dt,Dt,Dt,Dt,Dt,Dt,Dt,Dt]
noncomputable def lx3 (b:Int) (mt jn:Nat):List (Option AV):=[Dt,ER (.int x),ER (.lst (qae c)),Dt,ER (.lst (qab c)),ER (.loc 2),ER (.bool Hq),ER (.lst (stL c 6)),ER (.int (wC c 63)),ER (.int ((c 6).fmod 27)),ER (.int (((c 6).fdiv 27).fmod 13 - 4)),ER (.loc n),Dt,Dt,Dt,Dt,Dt,ER (.lst (qa0 (raC c))),ER (.int (fiC c)),ER (.int (beC c)),ER (plV c x),ER (woV c x),ER (.int ((mt:Nat):Int)),ER (.int ((jn:Nat):Int)),ER (.int b),Dt,Dt,Dt,Dt,Dt,Dt,Dt,ER (rwV c),Dt,Dt,Dt,Dt,Dt,Dt,Dt,Dt,Dt,Dt,Dt,Dt,Dt,Dt,Dt,Dt,Dt,Dt,Dt,Dt,Dt,Dt]
noncomputable def lxW (b:Int) (mt jn:Nat) (w:Int) (o:AV):List (Option AV):=[Dt,ER (.int x),ER (.lst (qae c)),Dt,ER (.lst (qab c)),ER (.loc 2),ER (.bool Hq),ER (.lst (stL c 6)),ER (.int (wC c 63)),ER (.int ((c 6).fmod 27)),ER (.int (((c 6).fdiv 27).fmod 13 - 4)),ER (.loc n),Dt,Dt,Dt,Dt,Dt,ER (.lst (qa0 (raC c))),ER (.int (fiC c)),ER (.int (beC c)),ER (plV c x),ER (woV c x),ER (.int ((mt:Nat):Int)),ER (.int ((jn:Nat):Int)),ER (.int b),ER (.int w),ER (o),Dt,Dt,Dt,Dt,Dt,ER (rwV c),Dt,Dt,Dt,Dt,Dt,Dt,Dt,Dt,Dt,Dt,Dt,Dt,Dt,Dt,Dt,Dt,Dt,Dt,Dt,Dt,Dt,Dt]
end
noncomputable def ta2312:PSigma (λl=>(qbm (nth bd23.1 12))=l):=⟨_,by conv=>lhs;whnf⟩
noncomputable def bo2312:PSigma (λl=>(qb4 (nth bd23.1 12))=l):=⟨_,by conv=>lhs;whnf⟩
section
variable (F:Fac W) {x:Int}
include F in
theorem qwu:Ex ⟨W,Y,nm23.1,cd⟩ (k+2) fr (lx0 c n x) σ (nth bo2312.1 0) .next (lx1 c n x) σ:=by
  have hl:=qqv F (σ:=σ) (H:=.none) (lo:=0) (hi:=nC c) (.inl ⟨rfl,rfl⟩) (Aq _) (AJ _) qtm (λj _ hj=>qmz (c:=c) (x:=x) hj) (F.f4k2 (rwV c) (.int x) (.glob (.ref A19))) k fr Y;have hr:=qqu F (σ:=σ) (H:=.none) (lo:=0) (hi:=nC c) (.inl ⟨rfl,rfl⟩) (Aq _) (AJ _) qtk (λj _ hj=>qoy (c:=c) (x:=x) hj) (F.f2k2 (rwV c) (.int x) (.glob (.ref A19))) k fr Y;have hk1:=(F.f4k2 .none .none .none).kept;have hk2:=(F.f2k2 .none .none .none).kept;have h:Ex ⟨W,Y,nm23.1,cd⟩ (k+2) fr (lx0 c n x) σ (nth bo2312.1 0) .next ((lx0 c n x).set 20 (ER (plV c x))) σ:=by
    show Ex _ _ _ _ _ (.Assign _ _ _) _ _ _;exact .(Ia4 .(Ev.list (Evs.cons .(Ev.call .(Iad 47 F.g_bisect_left) (hk1) (Evs.cons .(Ia5 32) .((Evs.cons .(Ia5 1) .(Evs.nil)))) (EvK.cons .(Iad 48 F.g_law_rate) .(EvK.nil)) (hl)) .((Evs.cons .(Ev.call .(Iad 49 F.g_bisect_right) (hk2) (Evs.cons .(Ia5 32) .((Evs.cons .(Ia5 1) .(Evs.nil)))) (EvK.cons .(Iad 48 F.g_law_rate) .(EvK.nil)) (hr)) .(Evs.nil))))) .(Ia3 20))
  exact h
include F in
theorem qwt:Ex ⟨W,Y,nm23.1,cd⟩ k fr (lx1 c n x) σ (nth bo2312.1 1) .next (lx2 c n x) σ:=by
  have hz:(qc4 (qaw c) 6).length<=2 ^ 20:=Af (qdn _ 6) (by decide);have hm1:∀m:Nat,Fi (hrs (dI c) 6 m) 12252240:=λm=>qgk (by decide) (by decide)
  have hm2:∀m:Nat,Fi x (hrs (eI c) 6 m):=λm=>qgk (by have:=(qkv (c:=c) m).1;omega) (by have:=(qkv (c:=c) m).2;omega)
  have hv:AV.lst ((qc4 (qaw c) 6).map λm=>AV.int (hrs (dI c) 6 m*12252240+x*hrs (eI c) 6 m))=woV c x:=by rw[woV,qa0,BL];rfl
  have hpl:plain (.lst (stL c 6))=Hq:=qaq (λ_=>rfl) _;have h:Ex ⟨W,Y,nm23.1,cd⟩ k fr (lx1 c n x) σ (nth bo2312.1 1) .next ((lx1 c n x).set 21 (ER (woV c x))) σ:=by
    rw[<- hv];show Ex _ _ _ _ _ (.Assign _ _ _) _ _ _;exact .(Iar (i:=21) Uu .(ItE.list .(Ia0 7) .(Lv.fz)) (CompIn.of [Dt,Dt,Dt,Dt,ER 1] (by kernel_rfl) (by kernel_rfl)) .(CompC.map Uu (qc4 (qaw c) 6) (stA c) ((λm=>AV.int (hrs (dI c) 6 m*12252240+x*hrs (eI c) 6 m))) _ (λx hx=>.(As.tuple .(AsL.cons .(Ia3 1) .(AsL.cons .(Ia3 2) .(AsL.cons .(Ia3 3) .(AsL.nil)))))) (λx hx=>.(Ia2 .(Ia2 .(Ia0 2) .(Ia1) (Ibu (hm1 x))) .(Ia2 .(Ia5 4) .(Ia0 3) (Ibu (hm2 x))) .(Op2.add))) .(λ_=>Ia8 (Ia8 (Weak.set Uu) Uu) Uu) (hp:=by with_unfolding_all assumption) (hz:=by exact hz)) .(qa9 (λ_=>Uu) _))
  exact h
end
end
section
section
variable (F:Fac W) {x:Int}
noncomputable abbrev mkC (c:Nat->Int) (r:Nat):Nat:=mkM ((bsC c (lfC c)).take r).flatten
theorem qti {B:List Nat}(hB:(bsC c (lfC c))[j]?=ER B):j<nC c/\kyL c j=-(rat (dI c) (eI c) 12252240 B):=⟨(Ar.mp hB).1,by
  show -(rat (dI c) (eI c) 12252240 ((bsC c (lfC c)).getD j []))=_;rw[qas hB]⟩
theorem qrb (j:Nat)(B:List Nat)(hB:(bsC c (lfC c))[j]?=ER B):0<rat (dI c) (eI c) 12252240 B+x↔j<p1C c x:=by
  obtain ⟨h1,h2⟩:=qti hB;rw[<- qmz (x:=x) h1,h2];simp +arith
theorem qvp (j:Nat)(B:List Nat)(hB:(bsC c (lfC c))[j]?=ER B):0<=rat (dI c) (eI c) 12252240 B+x↔j<p2C c x:=by
  obtain ⟨h1,h2⟩:=qti hB;rw[<- qtl (x:=x) h1,h2];simp +arith
theorem qx3:mjF (λm=>wvF (dI c) (eI c) x m==beV c x) (qc4 (qaw c) 6) (63,0)=(mkC c (p1C c x),mkC c (p2C c x)):=t6.mj qrb qvp
theorem qtv (r:Nat):mkC c r<64:=qkn λk hk=>qre (c:=c) (lf:=lfC c) ((take_sub r).subset hk)
include F in
theorem qws:Ex ⟨W,Y,nm23.1,cd⟩ k fr (lx2 c n x) σ (nth bo2312.1 2) .next (lx3 c n x (beV c x) 63 0) σ:=by
  have hb:∀a∈(qc4 (qaw c) 6).map (wvF (dI c) (eI c) x),a<=beV c x:=λa ha=>by
    obtain ⟨m,hm,rfl⟩:=Bg.mp ha;exact ((t6 (c:=c)).best (lf:=lfC c) hm).1
  have hp:=(t6 (c:=c)).pre (lf:=lfC c) (x:=x) (r:=p1C c x) λj B hB=>⟨(qrb j B hB).mp,λq=>A9.mp λz=>by have:=(qrb (x:=x) j B hB).mpr z;omega⟩
  have hM:beV c x∈(qc4 (qaw c) 6).map (wvF (dI c) (eI c) x):=Bg.mpr ⟨_,hp.1,hp.2⟩;generalize beV c x=b at *;have hc:=Idz (W:=W) (Y:=Y) (k:=k) (fr:=fr) (σ:=σ) (Lv.fz (l:=qa0 ((qc4 (qaw c) 6).map (wvF (dI c) (eI c) x)))) hM hb;have h:Ex ⟨W,Y,nm23.1,cd⟩ k fr (lx2 c n x) σ (nth bo2312.1 2) .next ((((lx2 c n x).set 22 (ER (.int 63))).set 23 (ER (.int 0))).set 24 (ER (.int b))) σ:=by
    show Ex _ _ _ _ _ (.Assign _ _ _) _ _ _;exact .(Ici (i:=22) (j:=23) (l:=24) .(Ev.tuple (Evs.cons .(Ia1) .((Evs.cons .(Ia1) .((Evs.cons .(Ev.call .(Iah 50 F.b_max) .(Kept.builtin) (Evs.cons .(Ia0 21) .(Evs.nil)) EvK.nil (hc)) .(Evs.nil))))))) Uu Uu Uu (by decide) (by decide) (by decide) Uu Uu Uu)
  exact h
noncomputable def ta23123:PSigma (λl=>(qbm (nth (qb4 (nth bd23.1 12)) 3))=l):=⟨_,by conv=>lhs;whnf⟩
noncomputable def bo23123:PSigma (λl=>(qb4 (nth (qb4 (nth bd23.1 12)) 3))=l):=⟨_,by conv=>lhs;whnf⟩
theorem qqm {b w:Int}{mt jn:Nat}{o:AV}:((lx3 c n x b mt jn).set 25 (ER (.int w))).set 26 (ER o)=lxW c n x b mt jn w o:=rfl
include F in
theorem qrp {b w gg hh:Int}(s:Nat×Nat){m:Nat}:Exs ⟨W,Y,nm23.1,cd⟩ k fr (lxW c n x b s.1 s.2 w (.tup [.int (m:Nat),.int gg,.int hh])) σ bo23123.1 .next (lxW c n x b (if w==b then (s.1 &&& m,s.2 ||| m) else s).1 (if w==b then (s.1 &&& m,s.2 ||| m) else s).2 w (.tup [.int (m:Nat),.int gg,.int hh])) σ:=by
  obtain ⟨mt,jn⟩:=s;show Exs _ _ _ (lxW c n x b mt jn w _) _ (_::_) _ _ _;cases hq:w==b with
  | true=>
    have e1:AV.tup [.int (AN ((mt:Nat):Int) ((m:Nat):Int)),.int (Du ((jn:Nat):Int) ((m:Nat):Int))]=.tup [.int ((mt &&& m:Nat):Int),.int ((jn ||| m:Nat):Int)]:=by rw[qgu,qg9]
    have h:Exs ⟨W,Y,nm23.1,cd⟩ k fr (lxW c n x b mt jn w (.tup [.int (m:Nat),.int gg,.int hh])) σ bo23123.1 .next (((lxW c n x b mt jn w (.tup [.int (m:Nat),.int gg,.int hh])).set 22 (ER (.int ((mt &&& m:Nat):Int)))).set 23 (ER (.int ((jn ||| m:Nat):Int)))) σ:=by
      show Exs _ _ _ _ _ (_::_) _ _ _;exact .(Exs.cons .(Ia6 (c:=Hq) .(Iab .(Tr.cmp .(Ia0 25) .(Ia0 24) .(Ibe)) hq) (λ_=>.(Exs.cons .(Ic3 (i:=22) (j:=23) .(Iag .(Ev.tuple (Evs.cons .(Ia2 .(Ia0 22) .(Iae .(Ia0 26) .(Ia1) .(⟨_,rfl,rfl⟩)) .(Op2.and)) .((Evs.cons .(Ia2 .(Ia0 23) .(Iae .(Ia0 26) .(Ia1) .(⟨_,rfl,rfl⟩)) .(Ieb)) .(Evs.nil))))) (e1)) Uu Uu (by decide) Uu Uu) .(Exs.nil))) (λh=>nomatch h)) .(Exs.nil))
    exact h
  | false=>
    have h:Exs ⟨W,Y,nm23.1,cd⟩ k fr (lxW c n x b mt jn w (.tup [.int (m:Nat),.int gg,.int hh])) σ bo23123.1 .next (lxW c n x b mt jn w (.tup [.int (m:Nat),.int gg,.int hh])) σ:=by
      show Exs _ _ _ _ _ (_::_) _ _ _;exact .(Exs.cons .(Ia6 (c:=Hr) .(Iab .(Tr.cmp .(Ia0 25) .(Ia0 24) .(Ibe)) hq) (λh=>nomatch h) (λ_=>.(Exs.nil))) .(Exs.nil))
    exact h
include F in
theorem qwr:Ex ⟨W,Y,nm23.1,cd⟩ k fr (lx3 c n x (beV c x) 63 0) σ (nth bo2312.1 3) .next (lx3 c n x (beV c x) (mkC c (p1C c x)) (mkC c (p2C c x))) σ:=by
  have hL2:Lv σ (.lst (stL c 6)) (stL c 6):=Lv.fz;have hi:(AIt.zip (woV c x) (qa0 ((qc4 (qaw c) 6).map (wvF (dI c) (eI c) x))) (.lst (stL c 6)) (stL c 6)).items=(qc4 (qaw c) 6).map λm=>AV.tup [.int (wvF (dI c) (eI c) x m),stA c m]:=by
    show List.zipWith (λa b=>AV.tup [a,b]) (qa0 ((qc4 (qaw c) 6).map (wvF (dI c) (eI c) x))) ((qc4 (qaw c) 6).map (stA c))=_;rw[qa0,BL,List.zipWith_map,List.zipWith_self];rfl
  have hp:(AIt.zip (woV c x) (qa0 ((qc4 (qaw c) 6).map (wvF (dI c) (eI c) x))) (.lst (stL c 6)) (stL c 6)).plain=Hq:=by
    show (plain (woV c x)&&plain (.lst (stL c 6)))=Hq;rw[show plain (woV c x)=Hq from qcn _,show plain (.lst (stL c 6))=Hq from qaq (λ_=>rfl) _];rfl
  have hl:ForC ⟨W,Y,nm23.1,cd⟩ k fr ta23123.1 bo23123.1 [] (.zip (woV c x) (qa0 ((qc4 (qaw c) 6).map (wvF (dI c) (eI c) x))) (.lst (stL c 6)) (stL c 6)) 0 (lx3 c n x (beV c x) 63 0) σ .next (lx3 c n x (beV c x) (mkC c (p1C c x)) (mkC c (p2C c x))) σ:=by
    have h:=Icp (C:=⟨W,Y,nm23.1,cd⟩) (k:=k) (fr:=fr) (t:=ta23123.1) (body:=bo23123.1) (orelse:=[]) (fl:=.next) (z':=σ) (m':=lx3 c n x (beV c x) (mkC c (p1C c x)) (mkC c (p2C c x))) (ai:=.zip (woV c x) (qa0 ((qc4 (qaw c) 6).map (wvF (dI c) (eI c) x))) (.lst (stL c 6)) (stL c 6)) hp (λ_=>⟨_,_,_,rfl⟩) (qc4 (qaw c) 6) _ hi (λs:Nat×Nat=>lx3 c n x (beV c x) s.1 s.2) (λ_=>σ) (mjS λm=>wvF (dI c) (eI c) x m==beV c x) (λ_=>True) (λ_ _=>⟨.inl Lv.fz,hL2⟩) (λs m _ _=>⟨trivial,_,σ,_,?_,qrp F (c:=c) (n:=n) (x:=x) (b:=beV c x) (w:=wvF (dI c) (eI c) x m) (gg:=hrs (dI c) 6 m) (hh:=hrs (eI c) 6 m) (m:=m) s,?_⟩) (s0:=(63,0)) trivial ?_
    . exact h
    . rw[<- qqm];show As _ _ _ _ _ (.Tuple _ _ _) _ _ _;exact .(As.tuple .(AsL.cons .(Ia3 25) .(AsL.cons .(Ia3 26) .(AsL.nil))))
    . rw[<- qqm];exact Ia8 (Weak.set rfl) rfl
    . have:=qx3 (c:=c) (x:=x);unfold mjF at this;rw[this];exact Exs.nil
  show Ex _ _ _ _ _ (.For _ _ _ _ _) _ _ _;exact .(Ib2 .(ItE.call .(Iah 51 F.b_zip) .(Kept.type) (Evs.cons .(Ia0 21) .((Evs.cons .(Ia0 7) .(Evs.nil)))) .(CallIt.zip (Lv.fz) (Lv.fz))) (by with_unfolding_all exact ForC.pre hl (by exact Weak.refl)))
end
end
section
theorem qn2 (hps:∀p∈ps,p<32):Bz (FW ", " (qbg ps))=Hq:=by
  refine qrh (by decide +kernel) _ λa ha=>?_
  unfold qbg at ha;split at ha
  . rw[AE.mp ha];decide +kernel
  . obtain ⟨p,hp,e⟩:=Bg.mp ha;rw[<- e];exact (qda ⟨p,hps p hp⟩).2.2
section
variable (c:Nat->Int)
noncomputable def bN:Nat:=((c 6).fmod 27).toNat
noncomputable abbrev flC (r:Nat):List Nat:=(qm4 (mkC c r)).map (bN c + ·)
noncomputable abbrev qsm (r:Nat):Hv:=FW ", " (qbg (flC c r))
end
theorem qq6 (c:Nat->Int):(c 6).fmod 27=((bN c:Nat):Int)/\bN c<27:=by
  obtain ⟨m,e,hm⟩:=qpp (x:=c 6) (n:=27) (by decide);have e:(c 6).fmod 27=m:=e;unfold bN;rw[e];exact ⟨rfl,hm⟩
theorem qsh {p:Nat}(h:p∈flC c r):p<32:=by
  obtain ⟨k,hk,rfl⟩:=Bg.mp h;have:=qst hk;have:=(qq6 c).2;lia
theorem qqs:(flC c r).length<=6:=by rw[Ah];exact qhh _
theorem qur:(flC c r).Pairwise (· < ·):=EO.mpr ((ql3 _).imp λh=>Nat.add_lt_add_left h _)
theorem fl_sum:qa7 (flC c r)=((mkC c r:Nat):Int)*2 ^ ((c 6).fmod 27).toNat:=by
  show (((qm4 (mkC c r)).map (bN c + ·)).map λp=>(2:Int) ^ p).sum=_;rw[qmf,qq4 ⟨mkC c r,qtv r⟩];rfl
section
variable (F:Fac W) {x:Int}
theorem qmc (c:Nat->Int)(r:Nat):(qm4 (mkC c r)).Perm ((bsC c (lfC c)).take r).flatten:=qoh ((take_sub r).nodup (t6 (c:=c)).nod) λk hk=>qre (c:=c) (lf:=lfC c) ((take_sub r).subset hk)
noncomputable abbrev duV (c:Nat->Int) (x:Int):AV:=.lst [.str (qsm c (p1C c x)),.str (qsm c (p2C c x))]
noncomputable abbrev qqn (c:Nat->Int) (n:Nat) (x:Int):List (Option AV):=lx3 c n x (beV c x) (mkC c (p1C c x)) (mkC c (p2C c x))
include F in
theorem qwq:Ex ⟨W,Y,nm23.1,cd⟩ (k+1) fr (qqn c n x) σ (nth bo2312.1 4) .next ((qqn c n x).set 28 (ER (duV c x))) σ:=by
  have hk:=(F.f15 .none rfl).kept;have hz:=qg8 (c:=c) (lf:=lfC c);have hsl:∀r:Nat,AV.lst (qbo (qax (dI c) (eI c) (bsC c (lfC c))) Dt (ER ((r:Nat):Int)) Dt)=.lst (qax (dI c) (eI c) ((bsC c (lfC c)).take r)):=λr=>by rw[qff,qco,qax,qax,Ff]
  have hfl:∀r:Nat,((bsC c (lfC c)).take r).flatten.length<=6:=λr=>by rw[<- (qmc c r).length_eq];exact qhh _
  have hzn:∀r:Nat,(((bsC c (lfC c)).take r).flatMap λB=>B).length<=2 ^ 20:=λr=>by rw[List.flatMap_id'];exact Af (hfl r) (by decide)
  have hnv:∀r:Nat,AV.lst (((bsC c (lfC c)).take r).flatMap λB=>B.map λk:Nat=>AV.int (k:Nat))=.lst (qaa ((bsC c (lfC c)).take r).flatten):=λr=>by rw[qaa,List.map_flatten,List.flatMap_def]
  have hso:∀(r:Nat) (fr:List HA),Calls W Y (k+1) fr σ (.glob (.builtin "sorted")) [.lst (qaa ((bsC c (lfC c)).take r).flatten)] [] [] (.lst (qaa (qm4 (mkC c r)))) σ:=λr fr=>by
    have:=Ibo (W:=W) (Y:=Y) (k:=k+1) (fr:=fr) (σ:=σ) (lvZ ((bsC c (lfC c)).take r).flatten λw=>((w:Nat):Int)) (by rw[Ah];have:=hfl r;omega) ((qmc c r).map _) (EO.mpr ((ql3 _).imp λh=>EK.mpr (Bm h)));rw[qa0,BL] at this;exact this
  have hzb:∀r:Nat,(qm4 (mkC c r)).length<=2 ^ 20:=λr=>Af (qhh _) (by decide)
  have hfv:∀r:Nat,AV.lst ((qm4 (mkC c r)).map λk:Nat=>AV.int ((c 6).fmod 27+(k:Nat)))=.lst ((flC c r).map λp:Nat=>AV.int (p:Nat)):=λr=>by
    rw[flC,BL];refine congrArg AV.lst (CT λk _=>?_);rw[(qq6 c).1];rfl
  have hw:∀(r:Nat) (fr:List HA),Calls W Y (k+1) fr σ (.glob (.ref A15)) [.lst ((flC c r).map λp:Nat=>AV.int (p:Nat))] [] [] (.str (qsm c r)) σ:=λr fr=>qiw F (λp hp=>qsh hp) (Af qqs (by decide))
  have hpp:∀r:Nat,plain (.lst (qax (dI c) (eI c) ((bsC c (lfC c)).take r)))=Hq:=λr=>qao _
  unfold qqn;generalize beV c x=b;have h:Ex ⟨W,Y,nm23.1,cd⟩ (k+1) fr (lx3 c n x b (mkC c (p1C c x)) (mkC c (p2C c x))) σ (nth bo2312.1 4) .next ((lx3 c n x b (mkC c (p1C c x)) (mkC c (p2C c x))).set 28 (ER (.lst ([p1C c x,p2C c x].map λr:Nat=>AV.str (qsm c r))))) σ:=by
    show Ex _ _ _ _ _ (.Assign _ _ _) _ _ _;exact .(Iar (i:=28) Uu .(ItE.list .(Ia0 20) .(Lv.fz)) (CompIn.of [Dt,Dt,Dt,Dt,ER 9,ER 32] (by kernel_rfl) (by kernel_rfl)) .(CompC.map Uu ([p1C c x,p2C c x]) ((λr:Nat=>AV.int (r:Nat))) ((λr:Nat=>AV.str (qsm c r))) _ (λx hx=>.(Ia3 1)) (λx hx=>.(Ev.call .(Iad 2 F.g_law_words) (hk) (Evs.cons .(Iag .(Iao .(ItE.list .(Ev.call .(Iah 3 F.b_sorted) .(Kept.builtin) (Evs.cons .(Iag .(Iao .(ItE.list .(Iag .(Iav .(Ia5 5) EvO.none (Iau .(Ia0 1)) EvO.none .(Lv.fz) (by simp) (by assumption)) (hsl x)) .(Lv.fz)) (CompIn.of [Dt,Dt,Dt] (by kernel_rfl) (by kernel_rfl)) .(Ibx Uu Uu ((bsC c (lfC c)).take x) (qdm (dI c) (eI c)) ((λB:List Nat=>B)) ((λ(_:List Nat) (k:Nat)=>AV.int (k:Nat))) ((λ(_:List Nat) (k:Nat)=>AV.int (k:Nat))) _ (λx1 hx1=>.(Ia3 1 (hp:=.(qay _)))) _ (λx1 hx1=>.(ItE.list .(Iae .(Ia0 1) .(Ia1) .(⟨_,rfl,rfl⟩)) .(Lv.fz))) _ (λx1 hx1 y1 hy1=>.(Ia3 2)) (λx1 hx1 y1 hy1=>.(Ia0 2)) .(λ_=>Weak.set Uu) (by intro _ _;exact Weak.set Uu) (by intro _ _;with_unfolding_all rfl) (by first | (with_reducible assumption) | with_unfolding_all rfl) (by intro _ _;first | (with_reducible assumption) | with_unfolding_all rfl) Uu (by with_unfolding_all exact Lv.fz) (by intro _;with_unfolding_all exact Lv.fz) (by with_unfolding_all exact qao _) (by intro _;with_unfolding_all exact qaq (λ_=>rfl) _) (by with_unfolding_all first | exact (λ_=>⟨_,_,_,rfl⟩) | exact (λh=>by cases h)) (by intro _;with_unfolding_all first | exact (λ_=>⟨_,_,_,rfl⟩) | exact (λh=>by cases h)) (by intro _ _;with_unfolding_all rfl) (by exact hzn x))) (hnv x)) .(Evs.nil)) EvK.nil (hso x _)) .(Lv.fz)) (CompIn.of [Dt,Dt,ER 4] (by kernel_rfl) (by kernel_rfl)) .(CompC.map Uu (qm4 (mkC c x)) ((λk:Nat=>AV.int (k:Nat))) ((λk:Nat=>AV.int ((c 6).fmod 27+(k:Nat)))) _ (λx1 hx1=>.(Ia3 1)) (λx1 hx1=>.(Ia2 .(Ia5 2) .(Ia0 1) .(Op2.add))) .(λ_=>Weak.set Uu) (hp:=by with_unfolding_all exact qa9 (λ_=>rfl) _) (hz:=by exact hzb x))) (hfv x)) .(Evs.nil)) EvK.nil (hw x _))) .(λ_=>Weak.set Uu)) .(qa9 (λ_=>Uu) _))
  exact h
end
end
section
section
variable (c:Nat->Int) (n:Nat) (x:Int)
noncomputable abbrev hdN (r:Nat):Nat:=hdC r (fiC c).toNat (beC c).toNat
noncomputable abbrev heV:AV:=.lst [.int (hdN c (p1C c x):Nat),.int (hdN c (p2C c x):Nat)]
noncomputable def lx6:List (Option AV):=[Dt,ER (.int x),ER (.lst (qae c)),Dt,ER (.lst (qab c)),ER (.loc 2),ER (.bool Hq),ER (.lst (stL c 6)),ER (.int (wC c 63)),ER (.int ((c 6).fmod 27)),ER (.int (((c 6).fdiv 27).fmod 13 - 4)),ER (.loc n),Dt,Dt,Dt,Dt,Dt,ER (.lst (qa0 (raC c))),ER (.int (fiC c)),ER (.int (beC c)),Dt,Dt,Dt,Dt,Dt,Dt,Dt,Dt,Dt,ER (heV c x),Dt,Dt,ER (rwV c),Dt,Dt,Dt,Dt,Dt,Dt,Dt,Dt,Dt,Dt,Dt,Dt,Dt,Dt,Dt,Dt,Dt,Dt,Dt,Dt,Dt,Dt]
noncomputable def lx8 (pv:AV) (r:Nat) (ln:Nat):List (Option AV):=[Dt,ER (.int x),ER (.lst (qae c)),Dt,ER (.lst (qab c)),ER (.loc 2),ER (.bool Hq),ER (.lst (stL c 6)),ER (.int (wC c 63)),ER (.int ((c 6).fmod 27)),ER (.int (((c 6).fdiv 27).fmod 13 - 4)),ER (.loc n),ER (pv),Dt,ER (.loc ln),Dt,Dt,ER (.lst (qa0 (raC c))),ER (.int (fiC c)),ER (.int (beC c)),Dt,Dt,Dt,Dt,Dt,Dt,Dt,ER (.int ((r:Nat):Int)),Dt,ER (heV c x),Dt,Dt,ER (rwV c),Dt,Dt,Dt,Dt,Dt,Dt,Dt,Dt,Dt,Dt,Dt,Dt,Dt,Dt,Dt,Dt,Dt,Dt,Dt,Dt,Dt,Dt]
noncomputable def lx7 (pv:AV) (r:Nat):List (Option AV):=[Dt,ER (.int x),ER (.lst (qae c)),Dt,ER (.lst (qab c)),ER (.loc 2),ER (.bool Hq),ER (.lst (stL c 6)),ER (.int (wC c 63)),ER (.int ((c 6).fmod 27)),ER (.int (((c 6).fdiv 27).fmod 13 - 4)),ER (.loc n),ER (pv),Dt,Dt,Dt,Dt,ER (.lst (qa0 (raC c))),ER (.int (fiC c)),ER (.int (beC c)),Dt,Dt,Dt,Dt,Dt,Dt,Dt,ER (.int ((r:Nat):Int)),Dt,ER (heV c x),Dt,Dt,ER (rwV c),Dt,Dt,Dt,Dt,Dt,Dt,Dt,Dt,Dt,Dt,Dt,Dt,Dt,Dt,Dt,Dt,Dt,Dt,Dt,Dt,Dt,Dt]
end
section
variable (F:Fac W) {x:Int}
theorem qpu (c:Nat->Int):fiC c=((fiC c).toNat:Nat)/\beC c=((beC c).toNat:Nat)/\(fiC c).toNat<=(beC c).toNat/\(beC c).toNat<=nC c:=by
  obtain ⟨a,b,h1,h2,h3,h4⟩:=qo1 c;rw[h1,h2];exact ⟨rfl,rfl,h3,h4⟩
include F in
theorem qv8 {lo:Nat}(hH:(H=.none/\hi=nC c)\/H=.int (hi:Nat))(hhi:hi<=nC c)(h1:lo<=r)(h2:r<=hi)(hr:∀j:Nat,lo<=j->j<hi->(kyL c j<x↔j<r))(B:FnB W NoK nm4.1 bd4.1 A4 args [] [] [ER (.lst (qa0 (raC c))),ER (.int x),ER (.int ((lo:Nat):Int)),ER H,ER .none,Dt,Dt,Dt]):Calls W Y (k+1) fr σ (.glob (.ref A4)) args [] [] (.int (r:Nat)) σ:=by
  have hl:=qgh (c:=c);exact qv9 F Lv.fz (λj _ hj=>qs3 (Ag hj hhi)) qox (hl ▸ hH) (hl ▸ hhi) h1 h2 hr B
include F in
theorem qv5 {lo:Nat}(hH:(H=.none/\hi=nC c)\/H=.int (hi:Nat))(hhi:hi<=nC c)(h1:lo<=r)(h2:r<=hi)(hr:∀j:Nat,lo<=j->j<hi->(x<kyL c j↔r<=j))(B:FnB W NoK nm2.1 bd2.1 A2 args [] [] [ER (.lst (qa0 (raC c))),ER (.int x),ER (.int ((lo:Nat):Int)),ER H,ER .none,Dt,Dt,Dt]):Calls W Y (k+1) fr σ (.glob (.ref A2)) args [] [] (.int (r:Nat)) σ:=by
  have hl:=qgh (c:=c);exact qv6 F Lv.fz (λj _ hj=>qs3 (Ag hj hhi)) qox (hl ▸ hH) (hl ▸ hhi) h1 h2 hr B
include F in
theorem qwp:Ex ⟨W,Y,nm23.1,cd⟩ (k+2) fr ((qqn c n x).set 28 (ER (duV c x))) σ (nth bo2312.1 5) .next (lx1 c n x) σ:=by
  have hb:=(qq6 c).1;have hb0:(0:Int)<=(c 6).fmod 27/\(c 6).fmod 27<=1000000:=by have:=(qq6 c).2;grind
  have hm:∀r:Nat,((mkC c r:Nat):Int).natAbs<2 ^ 64:=λr=>by have:=qtv (c:=c) r;omega
  have hfs:∀r:Nat,AV.int (((mkC c r:Nat):Int)*2 ^ ((c 6).fmod 27).toNat)=.int (qa7 (flC c r)):=λr=>congrArg AV.int fl_sum.symm
  have hf:∀r:Nat,Calls W Y (k+2) fr σ (.glob (.ref A7)) [.int (qa7 (flC c r))] [] [] (.str (qsm c r)) σ:=λr=>qjo F (k:=k+1) (λp hp=>qsh hp) qur (Af qqs (by decide))
  have hkf:=(F.f7 .none).kept;have hl:=qv8 F (Y:=Y) (k:=k+1) (fr:=fr) (σ:=σ) (H:=.none) (lo:=0) (hi:=nC c) (.inl ⟨rfl,rfl⟩) (Aq _) (AJ _) qtm (λj _ hj=>qmz (c:=c) (x:=x) hj) (F.f4n2 (.lst (qa0 (raC c))) (.int x));have hr:=qv5 F (Y:=Y) (k:=k+1) (fr:=fr) (σ:=σ) (H:=.none) (lo:=0) (hi:=nC c) (.inl ⟨rfl,rfl⟩) (Aq _) (AJ _) qtk (λj _ hj=>qoy (c:=c) (x:=x) hj) (F.f2n2 (.lst (qa0 (raC c))) (.int x));have hk1:=(F.f4k2 .none .none .none).kept;have hk2:=(F.f2k2 .none .none .none).kept;have hdu:D1 64 (duV c x):=D1.lst (d:=63) (l:=[p1C c x,p2C c x]) (f:=λr=>AV.str (qsm c r)) λr _=>D1.str (qn2 λp hp=>qsh hp)
  have hpl:D1 64 (plV c x):=qg4 (d:=63) [p1C c x,p2C c x];have hne1:Hr=Hq↔duV c x≠duV c x:=⟨nofun,λq=>absurd rfl q⟩
  have hne2:Hr=Hq↔plV c x≠plV c x:=⟨nofun,λq=>absurd rfl q⟩
  have h:Ex ⟨W,Y,nm23.1,cd⟩ (k+2) fr ((qqn c n x).set 28 (ER (duV c x))) σ (nth bo2312.1 5) .next ((qqn c n x).set 28 (ER (duV c x))) σ:=by
    unfold qqn;generalize beV c x=b;show Ex _ _ _ _ _ (.If _ _ _ _) _ _ _;exact .(Ia6 (c:=Hr) .(Iab .(Ib3 .(Ibt .(Tr.cmp .(Ev.list (Evs.cons .(Ev.call .(Iad 52 F.g_pretty_flags) (hkf) (Evs.cons .(Iag .(Ia2 .(Ia0 22) .(Ia5 9) (Ibd hb0.1 hb0.2 (hm _))) (hfs _)) .(Evs.nil)) EvK.nil (hf _)) .((Evs.cons .(Ev.call .(Iad 52 F.g_pretty_flags) (hkf) (Evs.cons .(Iag .(Ia2 .(Ia0 23) .(Ia5 9) (Ibd hb0.1 hb0.2 (hm _))) (hfs _)) .(Evs.nil)) EvK.nil (hf _)) .(Evs.nil))))) .(Ia0 28) (Op2.ne (c:=Hr) (Dv.of hdu) (Dv.of hdu) hne1)) (λ_=>.(Ib9 .(Tr.cmp .(Ev.list (Evs.cons .(Ev.call .(Iad 47 F.g_bisect_left) (hk1) (Evs.cons .(Ia0 17) .((Evs.cons .(Ia5 1) .(Evs.nil)))) EvK.nil (hl)) .((Evs.cons .(Ev.call .(Iad 49 F.g_bisect_right) (hk2) (Evs.cons .(Ia0 17) .((Evs.cons .(Ia5 1) .(Evs.nil)))) EvK.nil (hr)) .(Evs.nil))))) .(Ia0 20) (Op2.ne (c:=Hr) (Dv.of hpl) (Dv.of hpl) hne2)))) (λ_=>rfl))) (show (Hr||false)=Hr from rfl)) (λh=>nomatch h) (λ_=>.(Exs.nil)))
  refine Ex.post h ?_;have q:Weak ((((((lx1 c n x).set 21 (ER (woV c x))).set 22 (ER (.int (mkC c (p1C c x):Nat)))).set 23 (ER (.int (mkC c (p2C c x):Nat)))).set 24 (ER (.int (beV c x)))).set 28 (ER (duV c x))) (lx1 c n x):=Ia8 (Ia8 (Ia8 (Ia8 (Weak.set rfl) rfl) rfl) rfl) rfl;unfold qqn;generalize beV c x=b at q ⊢;exact q
include F in
theorem qwo:Ex ⟨W,Y,nm23.1,cd⟩ k fr (lx1 c n x) σ (nth bo2312.1 6) .next (lx6 c n x) σ:=by
  obtain ⟨e1,e2,_,_⟩:=qpu c;have hv:∀r:Nat,AV.int (min (max ((r:Nat):Int) (fiC c)) (beC c))=.int ((hdN c r:Nat):Int):=λr=>by
    rw[e1,e2];refine congrArg AV.int ?_;show min (max ((r:Nat):Int) (((fiC c).toNat:Nat):Int)) (((beC c).toNat:Nat):Int)=((min (max r (fiC c).toNat) (beC c).toNat:Nat):Int);omega
  have h:Ex ⟨W,Y,nm23.1,cd⟩ k fr (lx1 c n x) σ (nth bo2312.1 6) .next ((lx1 c n x).set 29 (ER (.lst ([p1C c x,p2C c x].map λr:Nat=>AV.int ((hdN c r:Nat):Int))))) σ:=by
    show Ex _ _ _ _ _ (.Assign _ _ _) _ _ _;exact .(Iar (i:=29) Uu .(ItE.list .(Ia0 20) .(Lv.fz)) (CompIn.of [Dt,Dt,Dt,Dt,ER 19,ER 18] (by kernel_rfl) (by kernel_rfl)) .(CompC.map Uu ([p1C c x,p2C c x]) ((λr:Nat=>AV.int (r:Nat))) ((λr:Nat=>AV.int ((hdN c r:Nat):Int))) _ (λx hx=>.(Ia3 1)) (λx hx=>.(Iag .(Ev.call .(Iah 2 F.b_min) .(Kept.builtin) (Evs.cons .(Ev.call .(Iah 3 F.b_max) .(Kept.builtin) (Evs.cons .(Ia0 1) .((Evs.cons .(Ia5 5) .(Evs.nil)))) EvK.nil (Iby)) .((Evs.cons .(Ia5 4) .(Evs.nil)))) EvK.nil (Idm)) (hv x))) .(λ_=>Weak.set Uu)) .(qa9 (λ_=>Uu) _))
  refine Ex.post h ?_;have q:Weak ((lx6 c n x).set 20 (ER (plV c x))) (lx6 c n x):=Weak.set rfl;exact q
include F in
theorem qwn:Ex ⟨W,Y,nm23.1,cd⟩ (k+2) fr (lx6 c n x) σ (nth bo2312.1 7) .next (lx6 c n x) σ:=by
  obtain ⟨e1,e2,e3,e4⟩:=qpu c;have hh1:=qnt (r:=p1C c x) e3;have hh2:=qnt (r:=p2C c x) e3;have hB1:=F.f4k4 (rwV c) (.int x) (.int (fiC c)) (.int (beC c)) (.glob (.ref A19));have hB2:=F.f2k4 (rwV c) (.int x) (.int (fiC c)) (.int (beC c)) (.glob (.ref A19));have hl:=qqv F (σ:=σ) (c:=c) (x:=x) (args:=[rwV c,.int x,.int (fiC c),.int (beC c)]) (H:=.int (beC c)) (lo:=(fiC c).toNat) (hi:=(beC c).toNat) (r:=hdN c (p1C c x)) (.inr (congrArg AV.int e2)) e4 hh1.1 hh1.2.1 (λj h1 h2=>(qmz (Ag h2 e4)).trans (hh1.2.2 j h1 h2)) (by rw[<- e1];exact hB1) k fr Y;have hr:=qqu F (σ:=σ) (c:=c) (x:=x) (args:=[rwV c,.int x,.int (fiC c),.int (beC c)]) (H:=.int (beC c)) (lo:=(fiC c).toNat) (hi:=(beC c).toNat) (r:=hdN c (p2C c x)) (.inr (congrArg AV.int e2)) e4 hh2.1 hh2.2.1 (λj h1 h2=>(qoy (Ag h2 e4)).trans ⟨λq=>A9.mp λz=>absurd ((hh2.2.2 j h1 h2).mpr z) (A9.mpr q),λq=>A9.mp λz=>absurd ((hh2.2.2 j h1 h2).mp z) (A9.mpr q)⟩) (by rw[<- e1];exact hB2) k fr Y;have hk1:=(F.f4k2 .none .none .none).kept;have hk2:=(F.f2k2 .none .none .none).kept;have hd:D1 64 (heV c x):=qg4 (d:=63) [hdN c (p1C c x),hdN c (p2C c x)];have hne:Hr=Hq↔heV c x≠heV c x:=⟨nofun,λq=>absurd rfl q⟩
  show Ex _ _ _ _ _ (.If _ _ _ _) _ _ _;exact .(Ia6 (c:=Hr) .(Iab .(Tr.cmp .(Ev.list (Evs.cons .(Ev.call .(Iad 47 F.g_bisect_left) (hk1) (Evs.cons .(Ia5 32) .((Evs.cons .(Ia5 1) .((Evs.cons .(Ia5 18) .((Evs.cons .(Ia5 19) .(Evs.nil)))))))) (EvK.cons .(Iad 48 F.g_law_rate) .(EvK.nil)) (hl)) .((Evs.cons .(Ev.call .(Iad 49 F.g_bisect_right) (hk2) (Evs.cons .(Ia5 32) .((Evs.cons .(Ia5 1) .((Evs.cons .(Ia5 18) .((Evs.cons .(Ia5 19) .(Evs.nil)))))))) (EvK.cons .(Iad 48 F.g_law_rate) .(EvK.nil)) (hr)) .(Evs.nil))))) .(Ia0 29) (Op2.ne (c:=Hr) (Dv.of hd) (Dv.of hd) hne)) rfl) (λh=>nomatch h) (λ_=>.(Exs.nil)))
end
end
section
section
variable (c:Nat->Int) (x:Int)
noncomputable abbrev hdL (lf:Bool):Nat:=if lf then hdN c (p1C c x) else hdN c (p2C c x)
noncomputable abbrev raI (r:Nat):List Int:=(raC c).take r ++ [x] ++ (raC c).drop r
noncomputable abbrev txS:List AObj:=[.lst (qa0 (raI c x (hdL c x Hq))),.lst (qa0 (raI c x (hdL c x Hr)))]
end
theorem qqb (c:Nat->Int)(x:Int)(r:Nat):(qa0 (raC c)).take r ++ [.int x] ++ (qa0 (raC c)).drop r=qa0 (raI c x r):=by
  rw[qa0,qa0,raI,AT,AT,Ff,List.map_drop];rfl
theorem quo (c:Nat->Int)(x:Int)(lf:Bool):hdL c x lf<=nC c:=by
  obtain ⟨_,_,e3,e4⟩:=qpu c;cases lf <;> exact Af (qnt e3).2.1 e4
theorem qp0 (l:List α):pickL l Dt Dt Dt=l:=qcp l 0
noncomputable def ta23128:PSigma (λl=>(qbm (nth (qb4 (nth bd23.1 12)) 8))=l):=⟨_,by conv=>lhs;whnf⟩
noncomputable def bo23128:PSigma (λl=>(qb4 (nth (qb4 (nth bd23.1 12)) 8))=l):=⟨_,by conv=>lhs;whnf⟩
section
variable (F:Fac W) {x:Int}
include F in
theorem qwy (lf:Bool)(hY:Y σ.length):Calls W Y (k+2) fr (σ ++ [.lst (qa0 (raC c))]) (qe0 lf) [.loc σ.length,.int x,.int (fiC c),.int (beC c)] [] [] .none (σ ++ [.lst (qa0 (raI c x (hdL c x lf)))]):=by
  obtain ⟨e1,e2,e3,e4⟩:=qpu c;have hn:(σ ++ [AObj.lst (qa0 (raC c))])[σ.length]?=ER (.lst (qa0 (raC c))):=qal (j:=0) rfl;have hl:=qgh (c:=c);have e:∀r,(σ ++ [AObj.lst (qa0 (raC c))]).set σ.length (.lst ((qa0 (raC c)).take r ++ [.int x] ++ (qa0 (raC c)).drop r))=σ ++ [.lst (qa0 (raI c x r))]:=λr=>by
    rw[qqb];exact qcw (j:=0) rfl
  have hh1:=qnt (r:=p1C c x) e3;have hh2:=qnt (r:=p2C c x) e3;have q1:hdL c x Hq=hdC (p1C c x) (fiC c).toNat (beC c).toNat:=if_pos rfl;have q2:hdL c x Hr=hdC (p2C c x) (fiC c).toNat (beC c).toNat:=if_neg AL;have hv:∀j:Nat,(fiC c).toNat<=j->j<(beC c).toNat->(qa0 (raC c))[j]?=ER (.int (kyL c j)):=λj _ hj=>qs3 (Ag hj e4)
  have hp1:∀j:Nat,j<(beC c).toNat->(kyL c j<x↔j<p1C c x):=λj hj=>qmz (Ag hj e4)
  have hp2:∀j:Nat,j<(beC c).toNat->(x<kyL c j↔p2C c x<=j):=λj hj=>qoy (Ag hj e4)
  have hz:=qox (c:=c);rw[<- hl] at e4;generalize p1C c x=r1 at *;generalize p2C c x=r2 at *;generalize (fiC c).toNat=a at *;generalize (beC c).toNat=b at *;rw[e1,e2];cases lf with
  | true=>
    rw[q1];exact Ian (qvy F (H:=.int ((b:Nat):Int)) (args:=[.loc σ.length,.int x,.int ((a:Nat):Int),.int ((b:Nat):Int)]) (κ:=kyL c) (kx:=x) (lo:=a) (hi:=b) (r:=hdC r1 a b) hn hY hz (.inr rfl) e4 hh1.1 hh1.2.1 (λj h1 h2=>(hp1 j h2).trans (hh1.2.2 j h1 h2)) hv (F.f3n4 (.loc σ.length) (.int x) (.int ((a:Nat):Int)) (.int ((b:Nat):Int))) k fr) rfl (e _)
  | false=>
    rw[q2];exact Ian (qvx F (H:=.int ((b:Nat):Int)) (args:=[.loc σ.length,.int x,.int ((a:Nat):Int),.int ((b:Nat):Int)]) (κ:=kyL c) (kx:=x) (lo:=a) (hi:=b) (r:=hdC r2 a b) hn hY hz (.inr rfl) e4 hh2.1 hh2.2.1 (λj h1 h2=>(hp2 j h2).trans ⟨λq=>A9.mp λz=>absurd ((hh2.2.2 j h1 h2).mpr z) (A9.mpr q),λq=>A9.mp λz=>absurd ((hh2.2.2 j h1 h2).mp z) (A9.mpr q)⟩) hv (F.f1n4 (.loc σ.length) (.int x) (.int ((a:Nat):Int)) (.int ((b:Nat):Int))) k fr) rfl (e _)
include F in
theorem qnq (lf:Bool)(hY:∀m,Y m):Exs ⟨W,Y,nm23.1,cd⟩ (k+2) fr (lx7 c n x (qe0 lf) (hdL c x lf)) σ bo23128.1 .next (lx6 c n x) (σ ++ [.lst (qa0 (raI c x (hdL c x lf)))]):=by
  have hc:=qwy F (Y:=Y) (k:=k) (fr:=fr) (σ:=σ) (c:=c) (x:=x) lf (hY _);have hkp:=qkj F (lf:=lf);have hle:=quo c x lf;have hL:Lv σ (.lst (qa0 (raC c))) (qa0 (raC c)):=Lv.fz;have hcp:qbo (qa0 (raC c)) Dt Dt Dt=qa0 (raC c):=by
    rw[qa0,qe4];exact congrArg (Gx AV.int) (qp0 _)
  have es:σ ++ [AObj.lst (qbo (qa0 (raC c)) Dt Dt Dt)]=σ ++ [.lst (qa0 (raC c))]:=by rw[hcp]
  have hpp:plains (qbo (qa0 (raC c)) Dt Dt Dt)=Hq:=by rw[hcp];exact qc5 _
  have hz:=qox (c:=c);generalize hr:hdL c x lf=r at *;have hi:(σ ++ [AObj.lst (qa0 (raI c x r))])[σ.length]?=ER (.lst (qa0 (raI c x r))):=qal (j:=0) rfl;have h1:AV.lst (qbo (qa0 (raC c)) Dt (ER ((r:Nat):Int)) Dt)=.lst ((qa0 (raC c)).take r):=by rw[qff,qco]
  have h2:AV.lst (qbo (qa0 (raC c)) (ER ((r:Nat):Int)) Dt Dt)=.lst ((qa0 (raC c)).drop r):=by rw[qff,qcp]
  have hl:=qgh (c:=c);have hz1:((qa0 (raC c)).take r).length+[AV.int x].length<=Ai:=by
    rw[CD,hl,Ba,AB];have:nC c<=6:=qi3;omega
  have hz2:((qa0 (raC c)).take r ++ [AV.int x]).length+((qa0 (raC c)).drop r).length<=Ai:=by
    rw[An,CD,List.length_drop,hl,Ba,AB];have:nC c<=6:=qi3;omega
  have he:AV.lst ((qa0 (raC c)).take r ++ [AV.int x] ++ (qa0 (raC c)).drop r)=.lst (qa0 (raI c x r)):=congrArg AV.lst (qqb c x r);have hd1:Dv (σ ++ [AObj.lst (qa0 (raI c x r))]) (.loc σ.length) (.lst (qa0 (raI c x r))):=Icf hi;have hd2:Dv (σ ++ [AObj.lst (qa0 (raI c x r))]) (.lst (qa0 (raI c x r))) (.lst (qa0 (raI c x r))):=Dv.ints;have hne:Hr=Hq↔AV.lst (qa0 (raI c x r))≠.lst (qa0 (raI c x r)):=⟨nofun,λq=>absurd rfl q⟩
  have hw:Weak (lx8 c n x (qe0 lf) r σ.length) (lx6 c n x):=by with_unfolding_all exact Ia9 134238208 (l:=lx8 c n x (qe0 lf) r σ.length)
  have h:Exs ⟨W,Y,nm23.1,cd⟩ (k+2) fr (lx7 c n x (qe0 lf) r) σ bo23128.1 .next ((lx7 c n x (qe0 lf) r).set 14 (ER (.loc σ.length))) (σ ++ [.lst (qa0 (raI c x r))]):=by
    show Exs _ _ _ _ _ (_::_) _ _ _;exact .(Exs.cons .(Ia4 .(Ic4 .(Id2 .(Ia0 17) EvO.none EvO.none EvO.none (by exact hL) (by simp) (by exact hpp) (by exact hz)) es rfl) .(Ibz 14)) .(Exs.cons .(Ex.expr .(Ev.call .(Ia5 12) (hkp) (Evs.cons .(Ia5 14) .((Evs.cons .(Ia5 1) .((Evs.cons .(Ia5 18) .((Evs.cons .(Ia5 19) .(Evs.nil)))))))) EvK.nil (hc))) .(Exs.cons .(Ia6 (c:=Hr) .(Iab .(Tr.cmp .(Ia5 14) .(Ia2 .(Ia2 .(Iag .(Iav .(Ia0 17) EvO.none (Iau .(Ia0 27)) EvO.none (by exact Lv.fz) (by simp) (by assumption)) h1) .(Ev.list (Evs.cons .(Ia5 1) .(Evs.nil))) (Iba Lv.fz Lv.fz hz1)) .(Iag .(Iav .(Ia0 17) (Iau .(Ia0 27)) EvO.none EvO.none (by exact Lv.fz) (by simp) (by assumption)) h2) (Ibj (Iba Lv.fz Lv.fz hz2) he)) (Op2.ne (c:=Hr) hd1 hd2 hne)) rfl) (λh=>nomatch h) (λ_=>.(Exs.nil))) .(Exs.nil))))
  exact Exs.post h hw
include F in
theorem qwm (hY:∀m,Y m):Ex ⟨W,Y,nm23.1,cd⟩ (k+2) fr (lx6 c n x) σ (nth bo2312.1 8) .next (lx6 c n x) (σ ++ txS c x):=by
  have as:∀(lf:Bool) (r:Nat) (z2:List AObj),As ⟨W,Y,nm23.1,cd⟩ (k+2) fr (lx6 c n x) z2 ta23128.1 (.tup [qe0 lf,.int ((r:Nat):Int)]) (lx7 c n x (qe0 lf) r) z2:=λlf r z2=>by
    have h:As ⟨W,Y,nm23.1,cd⟩ (k+2) fr (lx6 c n x) z2 ta23128.1 (.tup [qe0 lf,.int ((r:Nat):Int)]) (((lx6 c n x).set 12 (ER (qe0 lf))).set 27 (ER (.int ((r:Nat):Int)))) z2:=by
      show As _ _ _ _ _ (.Tuple _ _ _) _ _ _;exact .(As.tuple .(AsL.cons .(Ibz 12) .(AsL.cons .(Ia3 27) .(AsL.nil))))
    exact h
  have t1:=qnq F (Y:=Y) (cd:=cd) (k:=k) (fr:=fr) (σ:=σ) (c:=c) (n:=n) (x:=x) Hq hY;have t2:=qnq F (Y:=Y) (cd:=cd) (k:=k) (fr:=fr) (σ:=σ ++ [.lst (qa0 (raI c x (hdL c x Hq)))]) (c:=c) (n:=n) (x:=x) Hr hY;have hit:ItE ⟨W,Y,nm23.1,cd⟩ (k+2) fr (lx6 c n x) σ (qf3 (nth bo2312.1 8)) (.zip (.tup [qe0 Hq,qe0 Hr]) [qe0 Hq,qe0 Hr] (.lst [.int (hdN c (p1C c x):Nat),.int (hdN c (p2C c x):Nat)]) [.int (hdN c (p1C c x):Nat),.int (hdN c (p2C c x):Nat)]) σ:=by
    show ItE _ _ _ _ _ (.Call (.Name _ _) (.Tuple [_,_] _ _::_) _ _) (.zip (.tup [.glob (.ref A3),.glob (.ref A1)]) [.glob (.ref A3),.glob (.ref A1)] (.lst [.int (hdN c (p1C c x):Nat),.int (hdN c (p2C c x):Nat)]) [.int (hdN c (p1C c x):Nat),.int (hdN c (p2C c x):Nat)]) _;exact .(ItE.call .(Iah 51 F.b_zip) .(Kept.type) (Evs.cons .(Ev.tuple (Evs.cons .(Iad 39 F.g_insort_left) .((Evs.cons .(Iad 40 F.g_insort_right) .(Evs.nil))))) .((Evs.cons .(Ia0 29) .(Evs.nil)))) (Id7 Lv.fz))
  have q1:hdN c (p1C c x)=hdL c x Hq:=(if_pos rfl).symm;have q2:hdN c (p2C c x)=hdL c x Hr:=(if_neg AL).symm;rw[q1,q2] at hit;unfold txS;generalize hdL c x Hq=r1 at *;generalize hdL c x Hr=r2 at *;have e:σ ++ [AObj.lst (qa0 (raI c x r1))] ++ [.lst (qa0 (raI c x r2))]=σ ++ [.lst (qa0 (raI c x r1)),.lst (qa0 (raI c x r2))]:=by rw[AF];rfl
  rw[e] at t2;generalize hS:σ ++ [AObj.lst (qa0 (raI c x r1)),.lst (qa0 (raI c x r2))]=S at *;generalize hS1:σ ++ [AObj.lst (qa0 (raI c x r1))]=S1 at *;have hO:∀σ:List AObj,AIt.Ok σ (.zip (.tup [qe0 Hq,qe0 Hr]) [qe0 Hq,qe0 Hr] (.lst [.int ((r1:Nat):Int),.int ((r2:Nat):Int)]) [.int ((r1:Nat):Int),.int ((r2:Nat):Int)]):=λσ=>⟨.inr rfl,Lv.fz⟩
  have hl:ForC ⟨W,Y,nm23.1,cd⟩ (k+2) fr ta23128.1 bo23128.1 [] (.zip (.tup [qe0 Hq,qe0 Hr]) [qe0 Hq,qe0 Hr] (.lst [.int ((r1:Nat):Int),.int ((r2:Nat):Int)]) [.int ((r1:Nat):Int),.int ((r2:Nat):Int)]) 0 (lx6 c n x) σ .next (lx6 c n x) S:=
    ForC.next (hO _) rfl rfl (λ_=>⟨_,_,_,rfl⟩) (as Hq r1 _) t1 (ForC.next (hO _) rfl rfl (λ_=>⟨_,_,_,rfl⟩) (as Hr r2 _) t2 (ForC.done (hO _) rfl Exs.nil))
  show Ex _ _ _ _ _ (.For _ _ _ _ _) _ _ _;exact .(Ib2 (by with_unfolding_all exact hit) (by with_unfolding_all exact ForC.pre hl (by exact Weak.refl)))
noncomputable abbrev xsC (c:Nat->Int):List Int:=raC c ++ [-(((c 6).fdiv 27).fmod 13 - 4)*12252240]
include F in
theorem qsz (hY:∀m,Y m):Exs ⟨W,Y,nm23.1,cd⟩ (k+2) fr (lx0 c n x) σ bo2312.1 .next (lmB c n) (σ ++ txS c x):=by
  have hb:bo2312.1=[nth bo2312.1 0,nth bo2312.1 1,nth bo2312.1 2,nth bo2312.1 3,nth bo2312.1 4,nth bo2312.1 5,nth bo2312.1 6,nth bo2312.1 7,nth bo2312.1 8]:=by kernel_rfl
  rw[hb];have hw:Weak (lx6 c n x) (lmB c n):=by with_unfolding_all exact Ia9 536870914 (l:=lx6 c n x)
  exact Exs.post (Exs.cons (qwu F) (Exs.cons (qwt F) (Exs.cons (qws F) (Exs.cons (qwr F) (Exs.cons (qwq F (k:=k+1)) (Exs.cons (qwp F) (Exs.cons (qwo F) (Exs.cons (qwn F) (Exs.cons (qwm F hY) Exs.nil))))))))) hw
include F in
theorem qrx (hY:∀m,Y m):Ex ⟨W,Y,nm23.1,cd⟩ (k+2) fr (lmB c n) σ (nth bd23.1 12) .next (lmB c n) (σ ++ (xsC c).foldl (λs x=>s ++ txS c x) []):=by
  have hl:ForC ⟨W,Y,nm23.1,cd⟩ (k+2) fr ta2312.1 bo2312.1 [] (.seq (.lst (qa0 (xsC c))) (qa0 (xsC c))) 0 (lmB c n) σ .next (lmB c n) (σ ++ (xsC c).foldl (λs x=>s ++ txS c x) []):=by
    have h:=Icp (C:=⟨W,Y,nm23.1,cd⟩) (k:=k+2) (fr:=fr) (t:=ta2312.1) (body:=bo2312.1) (orelse:=[]) (fl:=.next) (z':=σ ++ (xsC c).foldl (λs x=>s ++ txS c x) []) (m':=lmB c n) (ai:=.seq (.lst (qa0 (xsC c))) (qa0 (xsC c))) (qc5 _) nofun (xsC c) AV.int rfl (λ_=>lmB c n) (λs:List AObj=>σ ++ s) (λs x=>s ++ txS c x) (λ_=>True) (λ_ _=>Lv.fz) (λs x _ _=>⟨trivial,lx0 c n x,σ ++ s,lmB c n,?_,?_,Weak.refl⟩) (s0:=[]) trivial Exs.nil
    . rw[AO] at h;exact h
    . have h:As ⟨W,Y,nm23.1,cd⟩ (k+2) fr (lmB c n) (σ ++ s) ta2312.1 (.int x) ((lmB c n).set 1 (ER (.int x))) (σ ++ s):=by
        show As _ _ _ _ _ (.Name _ _) _ _ _;exact .(Ibz 1)
      exact h
    . have h:=qsz F (Y:=Y) (cd:=cd) (k:=k) (fr:=fr) (σ:=σ ++ s) (c:=c) (n:=n) (x:=x) hY;rw[AF] at h;exact h
  have hzA:(qa0 (raC c)).length+[AV.int (-(((c 6).fdiv 27).fmod 13 - 4)*12252240)].length<=Ai:=by rw[qgh,Ba,AB];have:nC c<=6:=qi3;omega
  have hv:AV.lst (qa0 (raC c) ++ [AV.int (-(((c 6).fdiv 27).fmod 13 - 4)*12252240)])=.lst (qa0 (xsC c)):=by rw[qa0,qa0,AT];rfl
  have hm:Fi (-(((c 6).fdiv 27).fmod 13 - 4)) 12252240:=qgk (by decide) (by decide);have hit:ItE ⟨W,Y,nm23.1,cd⟩ (k+2) fr (lmB c n) σ (qf3 (nth bd23.1 12)) (.seq (.lst (qa0 (xsC c))) (qa0 (xsC c))) σ:=by
    show ItE _ _ _ _ _ (.BinOp _ _ _ _) _ _;exact .(ItE.list .(Iag .(Ia2 .(Ia0 17) .(Ev.list (Evs.cons .(Ia2 .(Icq .(Ia0 10)) .(Ia1) (Ibu hm)) .(Evs.nil))) (Iba Lv.fz Lv.fz hzA)) (hv)) (Lv.fz))
  show Ex _ _ _ _ _ (.For _ _ _ _ _) _ _ _;exact .(Ib2 (by with_unfolding_all exact hit) (by with_unfolding_all exact ForC.pre hl (by exact Weak.refl)))
end
end
section
noncomputable def bo2313:PSigma (λl=>(qb4 (nth bd23.1 13))=l):=⟨_,by conv=>lhs;whnf⟩
noncomputable def ta2313:PSigma (λl=>(qbm (nth bd23.1 13))=l):=⟨_,by conv=>lhs;whnf⟩
section
variable (F:Fac W) {outer:List HA}
structure DeM (c:Nat->Int) (m:List (Option AV)):Prop where
  row:m[32]?=ER (ER (rwV c))
  good:m[6]?=ER (ER (.bool Hq))
  rat:m[17]?=ER (ER (.lst (qa0 (raC c))))
  len:m.length=55
theorem DeM.turn (h:DeM c m):DeM c ((m.set 30 (ER v)).set 31 Dt):=by
  refine ⟨?_,?_,?_,?_⟩
  . rw[AX (by decide),AX (by decide)];exact h.row
  . rw[AX (by decide),AX (by decide)];exact h.good
  . rw[AX (by decide),AX (by decide)];exact h.rat
  . rw[Bv,Bv];exact h.len
noncomputable abbrev bad:Hv:="lo must be non-negative"
noncomputable abbrev bl0 (c:Nat->Int):AV:=qdm (dI c) (eI c) ((bsC c (lfC c)).getD 0 [])
include F in
theorem qeh (hm:DeM c m)(hkept:Kept W (.glob (.ref a)))(hr:CallsR W Y k (env::outer) σ (.glob (.ref a)) [rwV c,bl0 c,.int (-1)] ["key"] [.glob (.ref A19)] Hr "ValueError" (λus=>∃t,us=[.str bad t]) σ):
    ExsF ⟨W,Y,nm23.1,cd⟩ k env outer (m.set 30 (ER (.glob (.ref a)))) σ bo2313.1 .next ((m.set 30 (ER (.glob (.ref a)))).set 31 Dt) σ:=by
  have h7:(m.set 30 (ER (.glob (.ref a))))[32]?=ER (ER (rwV c)):=by rw[AX (by decide)];exact hm.row
  have h21:(m.set 30 (ER (.glob (.ref a))))[30]?=ER (ER (.glob (.ref a))):=by rw[BK (by rw[hm.len];decide)]
  have hz:=qg8 (c:=c) (lf:=lfC c);have h0:(qax (dI c) (eI c) (bsC c (lfC c)))[0]?=ER (bl0 c):=qq3 bs_len.1;have hb:ExsR ⟨W,Y,nm23.1,cd⟩ k (env::outer) (m.set 30 (ER (.glob (.ref a)))) σ (qb4 (nth bo2313.1 0)) Hr "ValueError" (λus=>∃t,us=[.str bad t]) (m.set 30 (ER (.glob (.ref a)))) σ:=by
    show ExsR _ _ _ _ _ (.Expr _ _::_) _ _ _ _ _;refine ExsR.head (ExR.expr ?_);show EvR _ _ _ _ _ (.Call (.Name _ _) (_::_::_::[]) (_::[]) _) _ _ _ _;have ha:Evs ⟨W,Y,nm23.1,cd⟩ k (env::outer) (m.set 30 (ER (.glob (.ref a)))) σ (qw3 (qf3 (nth (qb4 (nth bo2313.1 0)) 0))) [rwV c,bl0 c,.int (-1)] σ:=by
      show Evs _ _ _ _ _ (_::_::_::[]) _ _;refine Evs.cons (Ia5 32 (hv:=h7)) (Evs.cons ?_ (Evs.cons (Icq Ia1) Evs.nil));exact Iaa (Ia5 32 (hv:=h7)) Ia1 Lv.fz (qbi (j:=0) rfl h0) hz
    exact EvR.call (Ibm (i:=30) rfl h21) hkept ha (EvK.cons (Iad 48 F.g_law_rate) EvK.nil) hr
  show ExsF _ _ _ _ _ _ (.Try _ _ _ _ _::[]) _ _ _;refine ExsF.cons ?_ ExsF.nil;exact Idg (xp:=⟨0,0,0,0⟩) (tp:=⟨0,0,0,0⟩) (i:=53) (j:=31) (l:=54) hb rfl F.b_ValueError.g F.b_ValueError.b rfl (by rw[Bv,hm.len];decide) rfl F.b_str.g F.b_str.b
include F in
theorem qo8 (hm:DeM c m):∃m',DeM c m'/\
    ForF ⟨W,Y,nm23.1,cd⟩ (k+3) env outer ta2313.1 bo2313.1 [] (.tup [.glob (.ref A4),.glob (.ref A2),.glob (.ref A3),.glob (.ref A1)]) 0 m σ .next m' σ:=by
  have hx:∀k fr Y,Calls W Y (k+1) fr σ (.glob (.ref A19)) [bl0 c] [] [] (.int (-(rat (dI c) (eI c) 12252240 ((bsC c (lfC c)).getD 0 [])))) σ:=λk fr Y=>qam F (qq2 bs_len.1)
  have t1:=qeh F (Y:=Y) (cd:=cd) (k:=k+3) (outer:=outer) (env:=env) (σ:=σ) hm (F.f4k2 .none .none .none).kept (qk4 F (k:=k+2));have m1:=hm.turn (v:=.glob (.ref A4));have m2:=m1.turn (v:=.glob (.ref A2));have m3:=m2.turn (v:=.glob (.ref A3));have m4:=m3.turn (v:=.glob (.ref A1));have t2:=qeh F (Y:=Y) (cd:=cd) (k:=k+3) (outer:=outer) (env:=env) (σ:=σ) m1 (F.f2k2 .none .none .none).kept (qk3 F (k:=k+2));have t3:=qeh F (Y:=Y) (cd:=cd) (k:=k+3) (outer:=outer) (env:=env) (σ:=σ) m2 (F.f3k2 .none .none .none).kept (qjj F (k:=k) (d:=1) (qba F) rfl hx);have t4:=qeh F (Y:=Y) (cd:=cd) (k:=k+3) (outer:=outer) (env:=env) (σ:=σ) m3 (F.f1k2 .none .none .none).kept (qjh F (k:=k) (d:=1) (qba F) rfl hx);refine ⟨_,m4,?_⟩;have as_:∀(m:List (Option AV)) (v:AV),plain v=Hq->As ⟨W,Y,nm23.1,cd⟩ (k+3) (env::outer) m σ ta2313.1 v (m.set 30 (ER v)) σ:=λm v hv=>by
    show As _ _ _ _ _ (.Name _ _) _ _ _;exact Ibs (i:=30) rfl hv
  refine ForF.next trivial rfl rfl nofun (as_ _ _ rfl) t1 ?_;refine ForF.next trivial rfl rfl nofun (as_ _ _ rfl) t2 ?_;refine ForF.next trivial rfl rfl nofun (as_ _ _ rfl) t3 ?_;refine ForF.next trivial rfl rfl nofun (as_ _ _ rfl) t4 ?_;exact ForF.done trivial rfl ExsF.nil
include F in
theorem qrw:∃m',DeM c m'/\ExF ⟨W,Y,nm23.1,cd⟩ (k+3) env outer (lmB c n) σ (nth bd23.1 13) .next m' σ:=by
  obtain ⟨m',hm',q⟩:=qo8 F (Y:=Y) (cd:=cd) (k:=k) (outer:=outer) (env:=env) (σ:=σ) (c:=c) (m:=lmB c n) ⟨rfl,rfl,rfl,rfl⟩;refine ⟨m',hm',?_⟩;show ExF _ _ _ _ _ _ (.For _ _ _ _ _) _ _ _;refine Ie5 (ai:=.tup [.glob (.ref A4),.glob (.ref A2),.glob (.ref A3),.glob (.ref A1)]) ?_ q;exact .(ItE.tuple .(Ev.tuple (Evs.cons .(Iad 47 F.g_bisect_left) .((Evs.cons .(Iad 49 F.g_bisect_right) .((Evs.cons .(Iad 39 F.g_insort_left) .((Evs.cons .(Iad 40 F.g_insort_right) .(Evs.nil))))))))))
include F in
theorem qrv (hm:DeM c m):Ex ⟨W,Y,nm23.1,cd⟩ (k+1) fr m σ (nth bd23.1 14) (.ret (.bool Hq)) m σ:=by
  have hz:(bsC c (lfC c)).length<=2 ^ 20:=Af qi3 (by decide);have hk:=qba F;have hb:∀B∈bsC c (lfC c),Bk (dI c) (eI c) B:=t6.bks;have hc:=λ(fr:List HA) B (hB:B∈bsC c (lfC c))=>qam F (W:=W) (Y:=Y) (k:=k) (fr:=fr) (σ:=σ) (hb B hB)
  have hpp:plain (rwV c)=Hq:=qao _;have hv:AV.lst ((bsC c (lfC c)).map λB=>AV.int (-(rat (dI c) (eI c) 12252240 B)))=.lst (qa0 (raC c)):=by rw[qa0,BL];rfl
  have heq:Hq=Hq↔AV.lst (qa0 (raC c))=.lst (qa0 (raC c)):=⟨λ_=>rfl,λ_=>rfl⟩
  have hd:Dv σ (.lst (qa0 (raC c))) (.lst (qa0 (raC c))):=Dv.ints;have h6:=hm.good;have h32:=hm.row;have h17:=hm.rat;have h2:Ev ⟨W,Y,nm23.1,cd⟩ (k+1) fr m σ (orR (qf3 (nth bd23.1 14))) (.bool Hq) σ:=by
    show Ev _ _ _ _ _ (.Compare _ _ _ _) _ _;exact .(Ev.cmp .(Iag .(Iao .(ItE.list .(Ia5 32 (hv:=h32)) .(Lv.fz)) (CompIn.of [Dt,Dt,Dt] (by kernel_rfl) (by kernel_rfl)) .(CompC.map Uu (bsC c (lfC c)) (qdm (dI c) (eI c)) ((λB=>AV.int (-(rat (dI c) (eI c) 12252240 B)))) _ (λx hx=>.(Ia3 1 (hp:=.(qay _)))) (λx hx=>.(Ev.call .(Iad 2 F.g_law_rate) (hk) (Evs.cons .(Ia0 1) .(Evs.nil)) EvK.nil (hc _ x hx))) .(λ_=>Weak.set Uu) (hp:=by with_unfolding_all assumption) (hz:=by exact hz))) (hv)) .(Ibm (i:=17) Uu h17) (Ids (c:=Hq) hd hd heq))
  show Ex _ _ _ _ _ (.Return (ER (.BoolOp _ [_,_] _)) _) _ _ _;exact Iai (Ic6 (EvAnd.cons (Ibm (i:=6) rfl h6) (EvAnd.one h2)))
end
theorem qsq {scr:List Int}(hz:scr.length<=63)(t:Nat):0<=qoc scr t/\qoc scr t<64 ^ 6:=by
  have hs:∀l:List Int,0<=(l.map λv=>v.fmod 1000000).sum/\(l.map λv=>v.fmod 1000000).sum<=1000000*l.length:=by
    intro l;induction l with
    | nil=>exact ⟨Ca _,Ca _⟩
    | cons v l ih=>
      have h1:0<=v.fmod 1000000:=CX _ (by decide);have h2:v.fmod 1000000<1000000:=Ew _ (by decide);simp only[Bp,Ce,Bu];generalize v.fmod 1000000=z at *;omega
  have hb:0<=qq5 t/\qq5 t<=167:=by rcases t with _|_|_|_|_|_|t <;> exact ⟨of_decide_eq_true rfl,of_decide_eq_true rfl⟩
  have h:0<=(qlo scr t).sum/\(qlo scr t).sum<=1000000*(pickL (pickL scr Dt (ER 60) Dt) (ER ((t:Nat):Int)) Dt (ER 7)).length:=hs _;have hl:=qky hz t;unfold qoc;have:(64:Int) ^ 6=68719476736:=by decide
  rw[this];generalize (qlo scr t).sum=z at *;generalize qq5 t=w at *;lia
theorem qni (F:Fac W){scr:List Int}(hz:scr.length<=63)(k:Nat):Calls W noY (k+20) [] [] (.glob (.ref A23)) [.lst (qa0 scr)] [] [] (.bool Hq) []:=by
  obtain ⟨fd,xs,vs,hfn,hK,hb,B⟩:=F.f23 (.lst (qa0 scr)) (qcn _);generalize hc:qoc scr=c;have hcell:∀t,0<=c t/\c t<64 ^ 6:=λt=>by rw[<- hc];exact qsq hz t
  have hY:∀m:Nat,(λm=>noY m\/0<=m) m:=λm=>.inr (AJ _)
  obtain ⟨z2,D2,hdoc⟩:=qo6 F (c:=c) (z0:=st1 c) (Y:=λm=>noY m\/0<=m) (k:=k+16);have hrow:z2[2]?=ER (.lst ((Ae 6).map λs=>.loc (2+7+5*s+2))):=D2.row;have S2:DocS c 2 z2:=D2.s;have h7:=λfr=>qu4 F (Y:=λm=>noY m\/0<=m) (cd:=fd.code) (k:=k+8) (fr:=fr) hK hY S2 hrow
  have g8:(z2 ++ [qhq c,qcu c Hq,qcu c Hr])[z2.length]?=ER (qhq c):=qal (j:=0) rfl;have h13:=λenv=>qrw F (Y:=λm=>noY m\/0<=m) (cd:=fd.code) (k:=k+16) (outer:=[]) (env:=env) (c:=c) (n:=z2.length) (σ:=z2 ++ [qhq c,qcu c Hq,qcu c Hr] ++ (xsC c).foldl (λs x=>s ++ txS c x) [])
  refine Idn (m':=[]) (z'':=z2 ++ [qhq c,qcu c Hq,qcu c Hr] ++ (xsC c).foldl (λs x=>s ++ txS c x) []) (fl:=.ret (.bool Hq)) 0 (hfn (λm=>noY m\/0<=m)) hb B (λenv=>?_) (λn h=>by simp at h) (AJ _) (AJ _) rfl rfl;obtain ⟨m',hm',h13⟩:=h13 env;have h0:=qub F (Y:=λm=>noY m\/0<=m) (cd:=fd.code) (k:=k+19) (fr:=[env]) (σ:=[]) hz;rw[hc] at h0;have h0':Ex ⟨W,λm=>noY m\/0<=m,nm23.1,fd.code⟩ (k+19) [env] (quc [ER (.lst (qa0 scr))]) [] (nth bd23.1 0) .next (lm1 c) []:=Ex.post h0 (by with_unfolding_all exact Ia9 36028797018963963);refine Idt (m2:=m') ?_;show ExsF _ _ _ _ _ _ (_::_::_::_::_::_::_::_::_::_::_::_::_::_::_::[]) _ _ _;refine ExsF.cons (Ex.f h0') (ExsF.cons (Ex.f (qua F (k:=k+18))) (ExsF.cons (Ex.f (qu9 F (k:=k+17) hcell hY)) (ExsF.cons (Ex.f (qu8 F (k:=k+18))) (ExsF.cons (Ex.f (qu7 F (k:=k+19) (σ:=z2) (hdoc [env]))) ?_))));refine ExsF.cons (Ex.f (qu6 F (k:=k+18))) (ExsF.cons (Ex.f (qu5 F (k:=k+19) rfl)) (ExsF.cons (Ex.f (h7 [env])) (ExsF.cons (Ex.f (qu3 F g8)) (ExsF.cons (Ex.f (qu2 F (k:=k+18))) (ExsF.cons (Ex.f (qrz F)) (ExsF.cons (Ex.f (qry F)) (ExsF.cons (Ex.f (qrx F (k:=k+17) hY)) (ExsF.cons h13 (ExsF.ret (Ex.f (qrv F (k:=k+18) hm')))))))))))
end
end
section
noncomputable abbrev Qv:Dw:={ P3 with main:={ P3.main with body:=[P3.main.body.getLastD (.Pass default)] } }
noncomputable abbrev Lv0:List Hv:=["insort_right","bisect_right","insort_left","bisect_left","pretty_flags","_parse_varint","iselement","SubElement","_law_digits","_law_read","_law_words","_law_parts","_law_element","_law_document","_law_rate","_law_blocks","_law_sets","_law_waits","COMPILER_FLAG_NAMES"]
noncomputable def tbN:List (Hv×Option Hw):=[pN "insort_right" 23,pN "bisect_right" 32,pN "insort_left" 41,pN "bisect_left" 50,pN "pretty_flags" 58,pN "_parse_varint" 65,pN "iselement" 72,pN "SubElement" 81,pN "_law_digits" 86,pN "_law_read" 93,pN "_law_words" 98,pN "_law_parts" 103,pN "_law_element" 110,pN "_law_document" 115,pN "_law_rate" 122,pN "_law_blocks" 129,pN "_law_sets" 134,pN "_law_waits" 139,pN "law" 144,pN "COMPILER_FLAG_NAMES" 51,pZ "StopIteration",pZ "ValueError",pZ "enumerate",pZ "hasattr",pZ "hex",pZ "iter",pZ "len",pZ "list",pZ "max",pZ "min",pZ "next",pZ "range",pZ "sorted",pZ "str",pZ "sum",pZ "zip"]
noncomputable def tbF:List (Ht×FView):=[pF 23 (mkV P3 1 22 "insort_right" (.ref 15) (.ref 16)),pF 32 (mkV P3 2 31 "bisect_right" (.ref 24) (.ref 25)),pF 41 (mkV P3 3 40 "insort_left" (.ref 33) (.ref 34)),pF 50 (mkV P3 4 49 "bisect_left" (.ref 42) (.ref 43)),pF 58 (mkV P3 7 57 "pretty_flags" .none .none),pF 65 (mkV P3 8 64 "_parse_varint" .none .none),pF 72 (mkV P3 10 71 "iselement" .none .none),pF 81 (mkV P3 11 80 "SubElement" (.ref 74) .none),pF 86 (mkV P3 13 85 "_law_digits" .none .none),pF 93 (mkV P3 14 92 "_law_read" .none .none),pF 98 (mkV P3 15 97 "_law_words" .none .none),pF 103 (mkV P3 16 102 "_law_parts" .none .none),pF 110 (mkV P3 17 109 "_law_element" .none .none),pF 115 (mkV P3 18 114 "_law_document" .none .none),pF 122 (mkV P3 19 121 "_law_rate" .none .none),pF 129 (mkV P3 20 128 "_law_blocks" .none .none),pF 134 (mkV P3 21 133 "_law_sets" .none .none),pF 139 (mkV P3 22 138 "_law_waits" .none .none),pF 144 (mkV P3 23 143 "law" .none .none)]
noncomputable def tbO (p:Params):List (Ht×Obj):=[pO 24 ({ cls:=.type "tuple",data:=.seq #[.int 0 202,.none] }),pO 25 ({ cls:=.type "dict",data:=.dict #[⟨FZ p "key",.str "key" 203,.none⟩] 1 }),pO 42 ({ cls:=.type "tuple",data:=.seq #[.int 0 229,.none] }),pO 43 ({ cls:=.type "dict",data:=.dict #[⟨FZ p "key",.str "key" 230,.none⟩] 1 }),pO 15 ({ cls:=.type "tuple",data:=.seq #[.int 0 189,.none] }),pO 16 ({ cls:=.type "dict",data:=.dict #[⟨FZ p "key",.str "key" 190,.none⟩] 1 }),pO 33 ({ cls:=.type "tuple",data:=.seq #[.int 0 216,.none] }),pO 34 ({ cls:=.type "dict",data:=.dict #[⟨FZ p "key",.str "key" 217,.none⟩] 1 }),pO 74 ({ cls:=.type "tuple",data:=.seq #[.ref 73] }),pO 73 ({ cls:=.type "dict",data:=.dict #[] }),pO 105 (EP #[]),pO 112 (EP #[]),pO 141 (EP #[])]
noncomputable def tbA:List Ht:=[24,25,42,43,15,16,33,34,74,73,105,112,141]
noncomputable def tbC:List (Ht×Ht×Hv):=[pC 22 18 "insort_right",pC 31 27 "bisect_right",pC 40 36 "insort_left",pC 49 45 "bisect_left",pC 57 53 "pretty_flags",pC 64 60 "_parse_varint",pC 71 67 "iselement",pC 80 76 "SubElement",pC 85 83 "_law_digits",pC 92 88 "_law_read",pC 97 95 "_law_words",pC 102 100 "_law_parts",pC 109 105 "_law_element",pC 114 112 "_law_document",pC 121 117 "_law_rate",pC 128 124 "_law_blocks",pC 133 131 "_law_sets",pC 138 136 "_law_waits",pC 143 141 "law"]
noncomputable def chk (h:Heap):Bool:=(tbC.all λx=>qjy x.1 x.2.1 x.2.2 (h.get? x.1))&&(qkc flagTab (h.get? 51)&&(h.get? Cy).isSome)
def FnAt (W:Wd) (p:Dw) (i:Nat) (nm:List (Hv×AA)) (body:List Stmt) (a c:Ht) (q:Hv) (dV kV:Hw):Prop:=∃n doc pm an ct,∀Y,qqx ⟨W,Y,nm,.ref c⟩ a ((mkV p i c q dV kV).fd n doc pm an ct) body
theorem FnAt.B {p:Dw}{c:Ht}{q:Hv}{dV kV:Hw}(Q:FnAt W p i nm body a c q dV kV){K:Hw->Prop}(hK:K (.ref c))(hb:∀n doc pm an ct,qd7 W ((mkV p i c q dV kV).fd n doc pm an ct) args kn kv xs vs)(bi:Binds nm xs vs (AR nm.length Dt) m1):FnB W K nm body a args kn kv m1:=let ⟨n,doc,pm,an,ct,F⟩:=Q;⟨_,xs,vs,F,hK,hb n doc pm an ct,bi⟩
theorem FnAt.X {p:Dw}{c:Ht}{q:Hv}{dV kV:Hw}(Q:FnAt W p i nm body a c q dV kV){m1:Nat->List (Option AV)}(hb:∀n doc pm an ct,BindX W ((mkV p i c q dV kV).fd n doc pm an ct) args kn kv xs vs)(bi:∀n,Binds nm xs (vs ++ [.loc n]) (AR nm.length Dt) (m1 n)):FnX W nm body a args kn kv m1:=let ⟨n,doc,pm,an,ct,F⟩:=Q;⟨_,xs,vs,F,hb n doc pm an ct,bi⟩
theorem quu (hN:∀(i:Nat) (x:Hv) (v:Option Hw),tbN[i]?=ER (x,v)->W.mg x=v)(hB:∀x:Hv,x≠"__name__"->W.mb x=bootBuiltins x)(hF:∀(i:Nat) (a:Ht) (v:FView),tbF[i]?=ER (a,v)->qsx (W.s1.heap.get? a)=ER v)(hO:∀(i:Nat) (a:Ht) (o:Obj),(tbO W.w.params)[i]?=ER (a,o)->W.s1.heap.get? a=ER o)(hC:chk W.s1.heap=Hq)(ht:∀a,W.tab a↔(EJ W.s1.heap a/\W.s1.heap.get? a=ER (EP #[])))(bm:∃bm ob,W.mg "__builtins__" = ER (.ref bm)/\bm≠Bt/\W.s1.heap.get? bm=ER ob/\ob.cls=.type "module"/\ob.dict=ER Bt/\ob.data=.plain):Fac W:=by
  obtain ⟨hC1,hC2⟩:=Ay.mp hC;have hc:∀(i:Nat) (c P:Ht) (q:Hv),tbC[i]?=ER (c,P,q)->qjy c P q (W.s1.heap.get? c)=Hq:=λi c P q h=>BP.mp hC1 _ (Av h)
  have Q1:FnAt W P3 1 nm1.1 bd1.1 _ _ _ _ _:=qd1 (hF 0 _ _ rfl) (hc 0 _ _ _ rfl) bd1.2 nm1.2 rfl rfl rfl (by decide +kernel) (by decide +kernel);have Q2:FnAt W P3 2 nm2.1 bd2.1 _ _ _ _ _:=qd1 (hF 1 _ _ rfl) (hc 1 _ _ _ rfl) bd2.2 nm2.2 rfl rfl rfl (by decide +kernel) (by decide +kernel);have Q3:FnAt W P3 3 nm3.1 bd3.1 _ _ _ _ _:=qd1 (hF 2 _ _ rfl) (hc 2 _ _ _ rfl) bd3.2 nm3.2 rfl rfl rfl (by decide +kernel) (by decide +kernel);have Q4:FnAt W P3 4 nm4.1 bd4.1 _ _ _ _ _:=qd1 (hF 3 _ _ rfl) (hc 3 _ _ _ rfl) bd4.2 nm4.2 rfl rfl rfl (by decide +kernel) (by decide +kernel);have Q7:FnAt W P3 7 nm7.1 bd7.1 _ _ _ _ _:=qd1 (hF 4 _ _ rfl) (hc 4 _ _ _ rfl) bd7.2 nm7.2 rfl rfl rfl (by decide +kernel) (by decide +kernel);have Q8:FnAt W P3 8 nm8.1 bd8.1 _ _ _ _ _:=qd1 (hF 5 _ _ rfl) (hc 5 _ _ _ rfl) bd8.2 nm8.2 rfl rfl rfl (by decide +kernel) (by decide +kernel);have Q10:FnAt W P3 10 nm10.1 bd10.1 _ _ _ _ _:=qd1 (hF 6 _ _ rfl) (hc 6 _ _ _ rfl) bd10.2 nm10.2 rfl rfl rfl (by decide +kernel) (by decide +kernel);have Q11:FnAt W P3 11 nm11.1 bd11.1 _ _ _ _ _:=qd1 (hF 7 _ _ rfl) (hc 7 _ _ _ rfl) bd11.2 nm11.2 rfl rfl rfl (by decide +kernel) (by decide +kernel);have Q13:FnAt W P3 13 nm13.1 bd13.1 _ _ _ _ _:=qd1 (hF 8 _ _ rfl) (hc 8 _ _ _ rfl) bd13.2 nm13.2 rfl rfl rfl (by decide +kernel) (by decide +kernel);have Q14:FnAt W P3 14 nm14.1 bd14.1 _ _ _ _ _:=qd1 (hF 9 _ _ rfl) (hc 9 _ _ _ rfl) bd14.2 nm14.2 rfl rfl rfl (by decide +kernel) (by decide +kernel);have Q15:FnAt W P3 15 nm15.1 bd15.1 _ _ _ _ _:=qd1 (hF 10 _ _ rfl) (hc 10 _ _ _ rfl) bd15.2 nm15.2 rfl rfl rfl (by decide +kernel) (by decide +kernel);have Q16:FnAt W P3 16 nm16.1 bd16.1 _ _ _ _ _:=qd1 (hF 11 _ _ rfl) (hc 11 _ _ _ rfl) bd16.2 nm16.2 rfl rfl rfl (by decide +kernel) (by decide +kernel);have Q17:FnAt W P3 17 nm17.1 bd17.1 _ _ _ _ _:=qd1 (hF 12 _ _ rfl) (hc 12 _ _ _ rfl) bd17.2 nm17.2 rfl rfl rfl (by decide +kernel) (by decide +kernel);have Q18:FnAt W P3 18 nm18.1 bd18.1 _ _ _ _ _:=qd1 (hF 13 _ _ rfl) (hc 13 _ _ _ rfl) bd18.2 nm18.2 rfl rfl rfl (by decide +kernel) (by decide +kernel);have Q19:FnAt W P3 19 nm19.1 bd19.1 _ _ _ _ _:=qd1 (hF 14 _ _ rfl) (hc 14 _ _ _ rfl) bd19.2 nm19.2 rfl rfl rfl (by decide +kernel) (by decide +kernel);have Q20:FnAt W P3 20 nm20.1 bd20.1 _ _ _ _ _:=qd1 (hF 15 _ _ rfl) (hc 15 _ _ _ rfl) bd20.2 nm20.2 rfl rfl rfl (by decide +kernel) (by decide +kernel);have Q21:FnAt W P3 21 nm21.1 bd21.1 _ _ _ _ _:=qd1 (hF 16 _ _ rfl) (hc 16 _ _ _ rfl) bd21.2 nm21.2 rfl rfl rfl (by decide +kernel) (by decide +kernel);have Q22:FnAt W P3 22 nm22.1 bd22.1 _ _ _ _ _:=qd1 (hF 17 _ _ rfl) (hc 17 _ _ _ rfl) bd22.2 nm22.2 rfl rfl rfl (by decide +kernel) (by decide +kernel);have Q23:FnAt W P3 23 nm23.1 bd23.1 _ _ _ _ _:=qd1 (hF 18 _ _ rfl) (hc 18 _ _ _ rfl) bd23.2 nm23.2 rfl rfl rfl (by decide +kernel) (by decide +kernel);have K17:=qjf (hc 12 _ _ _ rfl) (hO 10 _ _ rfl) ht bm;have K18:=qjf (hc 13 _ _ _ rfl) (hO 11 _ _ rfl) ht bm;have K23:=qjf (hc 18 _ _ _ rfl) (hO 12 _ _ rfl) ht bm;have X2:=qpk (hO 0 _ _ rfl) (hO 1 _ _ rfl) nofun nofun;have B2:∀v0 v1 v2 v3 v4:AV,Binds nm2.1 ["a","x","lo","hi","key"] [v0,v1,v2,v3,v4] (AR nm2.1.length Dt) [ER v0,ER v1,ER v2,ER v3,ER v4,Dt,Dt,Dt]:=λv0 v1 v2 v3 v4=>.ok (i:=0) (by rfl) rfl (.ok (i:=1) (by rfl) rfl (.ok (i:=2) (by rfl) rfl (.ok (i:=3) (by rfl) rfl (.ok (i:=4) (by rfl) rfl .nil))))
  have X4:=qpk (hO 2 _ _ rfl) (hO 3 _ _ rfl) nofun nofun;have B4:∀v0 v1 v2 v3 v4:AV,Binds nm4.1 ["a","x","lo","hi","key"] [v0,v1,v2,v3,v4] (AR nm4.1.length Dt) [ER v0,ER v1,ER v2,ER v3,ER v4,Dt,Dt,Dt]:=λv0 v1 v2 v3 v4=>.ok (i:=0) (by rfl) rfl (.ok (i:=1) (by rfl) rfl (.ok (i:=2) (by rfl) rfl (.ok (i:=3) (by rfl) rfl (.ok (i:=4) (by rfl) rfl .nil))))
  have X1:=qpk (hO 4 _ _ rfl) (hO 5 _ _ rfl) nofun nofun;have B1:∀v0 v1 v2 v3 v4:AV,Binds nm1.1 ["a","x","lo","hi","key"] [v0,v1,v2,v3,v4] (AR nm1.1.length Dt) [ER v0,ER v1,ER v2,ER v3,ER v4,Dt]:=λv0 v1 v2 v3 v4=>.ok (i:=0) (by rfl) rfl (.ok (i:=1) (by rfl) rfl (.ok (i:=2) (by rfl) rfl (.ok (i:=3) (by rfl) rfl (.ok (i:=4) (by rfl) rfl .nil))))
  have X3:=qpk (hO 6 _ _ rfl) (hO 7 _ _ rfl) nofun nofun;have B3:∀v0 v1 v2 v3 v4:AV,Binds nm3.1 ["a","x","lo","hi","key"] [v0,v1,v2,v3,v4] (AR nm3.1.length Dt) [ER v0,ER v1,ER v2,ER v3,ER v4,Dt]:=λv0 v1 v2 v3 v4=>.ok (i:=0) (by rfl) rfl (.ok (i:=1) (by rfl) rfl (.ok (i:=2) (by rfl) rfl (.ok (i:=3) (by rfl) rfl (.ok (i:=4) (by rfl) rfl .nil))))
  exact {
    g_insort_right:=hN 0 _ _ rfl
    g_bisect_right:=hN 1 _ _ rfl
    g_insort_left:=hN 2 _ _ rfl
    g_bisect_left:=hN 3 _ _ rfl
    g_pretty_flags:=hN 4 _ _ rfl
    g_parse_varint:=hN 5 _ _ rfl
    g_iselement:=hN 6 _ _ rfl
    g_SubElement:=hN 7 _ _ rfl
    g_law_digits:=hN 8 _ _ rfl
    g_law_read:=hN 9 _ _ rfl
    g_law_words:=hN 10 _ _ rfl
    g_law_parts:=hN 11 _ _ rfl
    g_law_element:=hN 12 _ _ rfl
    g_law_document:=hN 13 _ _ rfl
    g_law_rate:=hN 14 _ _ rfl
    g_law_blocks:=hN 15 _ _ rfl
    g_law_sets:=hN 16 _ _ rfl
    g_law_waits:=hN 17 _ _ rfl
    g_law:=hN 18 _ _ rfl
    g_COMPILER_FLAG_NAMES:=hN 19 _ _ rfl
    tab:=qj0 (Ay.mp hC2).1 rfl (by decide)
    b_StopIteration:=⟨hN 20 _ _ rfl,(hB _ (by decide +kernel)).trans (by kernel_rfl)⟩
    b_ValueError:=⟨hN 21 _ _ rfl,(hB _ (by decide +kernel)).trans (by kernel_rfl)⟩
    b_enumerate:=⟨hN 22 _ _ rfl,(hB _ (by decide +kernel)).trans (by kernel_rfl)⟩
    b_hasattr:=⟨hN 23 _ _ rfl,(hB _ (by decide +kernel)).trans (by kernel_rfl)⟩
    b_hex:=⟨hN 24 _ _ rfl,(hB _ (by decide +kernel)).trans (by kernel_rfl)⟩
    b_iter:=⟨hN 25 _ _ rfl,(hB _ (by decide +kernel)).trans (by kernel_rfl)⟩
    b_len:=⟨hN 26 _ _ rfl,(hB _ (by decide +kernel)).trans (by kernel_rfl)⟩
    b_list:=⟨hN 27 _ _ rfl,(hB _ (by decide +kernel)).trans (by kernel_rfl)⟩
    b_max:=⟨hN 28 _ _ rfl,(hB _ (by decide +kernel)).trans (by kernel_rfl)⟩
    b_min:=⟨hN 29 _ _ rfl,(hB _ (by decide +kernel)).trans (by kernel_rfl)⟩
    b_next:=⟨hN 30 _ _ rfl,(hB _ (by decide +kernel)).trans (by kernel_rfl)⟩
    b_range:=⟨hN 31 _ _ rfl,(hB _ (by decide +kernel)).trans (by kernel_rfl)⟩
    b_sorted:=⟨hN 32 _ _ rfl,(hB _ (by decide +kernel)).trans (by kernel_rfl)⟩
    b_str:=⟨hN 33 _ _ rfl,(hB _ (by decide +kernel)).trans (by kernel_rfl)⟩
    b_sum:=⟨hN 34 _ _ rfl,(hB _ (by decide +kernel)).trans (by kernel_rfl)⟩
    b_zip:=⟨hN 35 _ _ rfl,(hB _ (by decide +kernel)).trans (by kernel_rfl)⟩
    f2k2:=λa x key=>Q2.B trivial (λ_ _ _ _ _=>bk2 (t:=202) X2 (λS u0 u1 k0=>by kernel_rfl) a x key) (B2 a x (.int 0) .none key)
    f2k3:=λa x lo key=>Q2.B trivial (λ_ _ _ _ _=>bk3 X2 (λS u0 u1 u2 k0=>by kernel_rfl) a x lo key) (B2 a x lo .none key)
    f2k4:=λa x lo hi key=>Q2.B trivial (λ_ _ _ _ _=>bk4 X2 (λS u0 u1 u2 u3 k0=>by kernel_rfl) a x lo hi key) (B2 a x lo hi key)
    f2n4:=λa x lo hi=>Q2.B trivial (λ_ _ _ _ _=>bn4 X2 (λS u0 u1 u2 u3=>by kernel_rfl) a x lo hi) (B2 a x lo hi .none)
    f2n2:=λa x=>Q2.B trivial (λ_ _ _ _ _=>bn2 (t:=202) X2 (λS u0 u1=>by kernel_rfl) a x) (B2 a x (.int 0) .none .none)
    f4k2:=λa x key=>Q4.B trivial (λ_ _ _ _ _=>bk2 (t:=229) X4 (λS u0 u1 k0=>by kernel_rfl) a x key) (B4 a x (.int 0) .none key)
    f4k3:=λa x lo key=>Q4.B trivial (λ_ _ _ _ _=>bk3 X4 (λS u0 u1 u2 k0=>by kernel_rfl) a x lo key) (B4 a x lo .none key)
    f4k4:=λa x lo hi key=>Q4.B trivial (λ_ _ _ _ _=>bk4 X4 (λS u0 u1 u2 u3 k0=>by kernel_rfl) a x lo hi key) (B4 a x lo hi key)
    f4n4:=λa x lo hi=>Q4.B trivial (λ_ _ _ _ _=>bn4 X4 (λS u0 u1 u2 u3=>by kernel_rfl) a x lo hi) (B4 a x lo hi .none)
    f4n2:=λa x=>Q4.B trivial (λ_ _ _ _ _=>bn2 (t:=229) X4 (λS u0 u1=>by kernel_rfl) a x) (B4 a x (.int 0) .none .none)
    f1k2:=λa x key=>Q1.B trivial (λ_ _ _ _ _=>bk2 (t:=189) X1 (λS u0 u1 k0=>by kernel_rfl) a x key) (B1 a x (.int 0) .none key)
    f1k3:=λa x lo key=>Q1.B trivial (λ_ _ _ _ _=>bk3 X1 (λS u0 u1 u2 k0=>by kernel_rfl) a x lo key) (B1 a x lo .none key)
    f1n2:=λa x=>Q1.B trivial (λ_ _ _ _ _=>bn2 (t:=189) X1 (λS u0 u1=>by kernel_rfl) a x) (B1 a x (.int 0) .none .none)
    f1n4:=λa x lo hi=>Q1.B trivial (λ_ _ _ _ _=>bn4 X1 (λS u0 u1 u2 u3=>by kernel_rfl) a x lo hi) (B1 a x lo hi .none)
    f3k2:=λa x key=>Q3.B trivial (λ_ _ _ _ _=>bk2 (t:=216) X3 (λS u0 u1 k0=>by kernel_rfl) a x key) (B3 a x (.int 0) .none key)
    f3k3:=λa x lo key=>Q3.B trivial (λ_ _ _ _ _=>bk3 X3 (λS u0 u1 u2 k0=>by kernel_rfl) a x lo key) (B3 a x lo .none key)
    f3n2:=λa x=>Q3.B trivial (λ_ _ _ _ _=>bn2 (t:=216) X3 (λS u0 u1=>by kernel_rfl) a x) (B3 a x (.int 0) .none .none)
    f3n4:=λa x lo hi=>Q3.B trivial (λ_ _ _ _ _=>bn4 X3 (λS u0 u1 u2 u3=>by kernel_rfl) a x lo hi) (B3 a x lo hi .none)
    f11t:=λp tag t kn kv h1 h2 h3 h4 h5=>Q11.X (λ_ _ _ _ _=>bxt rfl (hO 8 _ _ rfl) rfl rfl rfl rfl rfl rfl p tag t kn kv h1 h2 h3 h4 h5) (λn=>.ok (i:=0) (by rfl) rfl (.ok (i:=1) (by rfl) rfl (.ok (i:=2) (by rfl) rfl (.ok (i:=3) (by rfl) rfl .nil))))
    dsrc:=qux (hO 9 _ _ rfl) ⟨rfl,rfl,rfl⟩ rfl rfl
    f11d:=λp tag kn kv h1 h2 h3 h4 h5=>Q11.X (λ_ _ _ _ _=>bxd rfl (hO 8 _ _ rfl) rfl rfl rfl rfl rfl rfl p tag kn kv h1 h2 h3 h4 h5) (λn=>.ok (i:=0) (by rfl) rfl (.ok (i:=1) (by rfl) rfl (.ok (i:=2) (by rfl) rfl (.ok (i:=3) (by rfl) rfl .nil))))
    f7:=λv0 =>Q7.B trivial (λ_ _ _ _ _=>bp1 (λS u0=>by kernel_rfl) v0) (.ok (i:=0) (by rfl) rfl (.nil))
    f8:=λv0 =>Q8.B trivial (λ_ _ _ _ _=>bp1 (λS u0=>by kernel_rfl) v0) (.ok (i:=0) (by rfl) rfl (.nil))
    f10:=λv0 =>Q10.B trivial (λ_ _ _ _ _=>bp1 (λS u0=>by kernel_rfl) v0) (.ok (i:=0) (by rfl) rfl (.nil))
    f13:=λv0 v1 h0 h1=>Q13.B trivial (λ_ _ _ _ _=>bp2 (λS u0 u1=>by kernel_rfl) v0 v1) (.pl (i:=0) h0 rfl (.inr rfl) (.pl (i:=1) h1 rfl (.inr rfl) (.nil)))
    f14:=λv0 v1 =>Q14.B trivial (λ_ _ _ _ _=>bp2 (λS u0 u1=>by kernel_rfl) v0 v1) (.ok (i:=0) (by rfl) rfl (.ok (i:=1) (by rfl) rfl (.nil)))
    f15:=λv0 h0=>Q15.B trivial (λ_ _ _ _ _=>bp1 (λS u0=>by kernel_rfl) v0) (.pl (i:=0) h0 rfl (.inl rfl) (.nil))
    f16:=λv0 h0=>Q16.B trivial (λ_ _ _ _ _=>bp1 (λS u0=>by kernel_rfl) v0) (.pl (i:=0) h0 rfl (.inr rfl) (.nil))
    f17:=λv0 v1 =>Q17.B K17 (λ_ _ _ _ _=>bp2 (λS u0 u1=>by kernel_rfl) v0 v1) (.ok (i:=0) (by rfl) rfl (.ok (i:=1) (by rfl) rfl (.nil)))
    f18:=λv0 v1 =>Q18.B K18 (λ_ _ _ _ _=>bp2 (λS u0 u1=>by kernel_rfl) v0 v1) (.ok (i:=0) (by rfl) rfl (.ok (i:=1) (by rfl) rfl (.nil)))
    f19:=λv0 =>Q19.B trivial (λ_ _ _ _ _=>bp1 (λS u0=>by kernel_rfl) v0) (.ok (i:=0) (by rfl) rfl (.nil))
    f20:=λv0 v1 =>Q20.B trivial (λ_ _ _ _ _=>bp2 (λS u0 u1=>by kernel_rfl) v0 v1) (.ok (i:=0) (by rfl) rfl (.ok (i:=1) (by rfl) rfl (.nil)))
    f21:=λv0 h0=>Q21.B trivial (λ_ _ _ _ _=>bp1 (λS u0=>by kernel_rfl) v0) (.pl (i:=0) h0 rfl (.inr rfl) (.nil))
    f22:=λv0 v1 h0 h1=>Q22.B trivial (λ_ _ _ _ _=>bp2 (λS u0 u1=>by kernel_rfl) v0 v1) (.pl (i:=0) h0 rfl (.inr rfl) (.pl (i:=1) h1 rfl (.inr rfl) (.nil)))
    f23:=λv0 h0=>Q23.B K23 (λ_ _ _ _ _=>bp1 (λS u0=>by kernel_rfl) v0) (.pl (i:=0) h0 rfl (.inr rfl) (.nil))
    }
end
section
noncomputable def yf (s:Ab):qvj:=qmp tbN tbF tbA chk s
noncomputable def ya (w:World):qvj:=qth tbN tbF tbO w
theorem fin {s0 s1a:Ab}{mg mb:Hv->Option Hw}{fa:Ht}{vals:List Hw}{c:ClaimW}{cl:Hv->Option Ht}{mean:ExcName->Option Hw}{args:List WData}(Y:yf s0=ya w)(hk:∀b o,s0.heap.get? b=ER o->s1a.heap.get? b=ER o)(hg:s1a.gens=#[])(g:s1a.heap.Ns Br mg)(b:s1a.heap.Ns Bt mb)(nl:s1a.heap.NoLimit)(cs:∃mc,s1a.heap.Ns cStatics mc/\mc "sys.int_max_str_digits" = Dt)(hB:∀x:Hv,x≠"__name__"->mb x=bootBuiltins x)(bm:∃bm ob,mg "__builtins__" = ER (.ref bm)/\bm≠Bt/\s1a.heap.get? bm=ER ob/\ob.cls=.type "module"/\ob.dict=ER Bt/\ob.data=.plain)(hmg:mg "law" = ER (.ref fa))(ho:s1a.heap.get? a=ER { cls:=.type "list",data:=.seq vals.toArray })(hI:Hn vals ns)(hz:ns.length<=63)(hr:∀cls,c.raises args cls=Hr)(hp:c.post args (.bool Hq) args=Hq)(E:Hw->Ab->Prop):
    Hs (Hu P3 w) callerA (call (.ref fa) [.ref a]) (λv s'=>GoodWG c cl mean args s1a (.ok (.ret v)) s') E s1a:=by
  obtain ⟨y1,y2,y3,y4⟩:=qmo (os:=tbO w.params) (as:=tbA) (by rfl) Y;have y5:=(Ay.mp (Ay.mp y4).2).2;have hS:∃o,s1a.heap.get? Cy=ER o:=by
    obtain ⟨o,h⟩:=Option.isSome_iff_exists.mp y5;exact ⟨o,hk _ _ h⟩
  have hM:∃o,s0.heap.get? Br=ER o:=by
    cases hq:s0.heap.get? Br with
    | some o=>exact ⟨o,rfl⟩
    | none=>
      have h1:=y1 0 _ _ rfl;unfold Heap.nsMap at h1;rw[hq] at h1;cases h1
  have hN:∀(i:Nat) (x:Hv) (v:Option Hw),tbN[i]?=ER (x,v)->mg x=v:=λi x v h=>by
    rw[g.eq_nsMap,qli hk hM];exact y1 i x v h
  have hF:∀(i:Nat) (a:Ht) (v:FView),tbF[i]?=ER (a,v)->qsx (s1a.heap.get? a)=ER v:=λi a v h=>by
    have h1:=y2 i a v h;obtain ⟨o,n,doc,pm,an,ct,h2,h3⟩:=qid h1;rw[hk a o h2,<- h2];exact h1
  have hC:chk s1a.heap=Hq:=by
    obtain ⟨c1,c2⟩:=Ay.mp y4;refine Ay.mpr ⟨BP.mpr λx hx=>qls hk (BP.mp c1 x hx),Ay.mpr ⟨?_,?_⟩⟩
    . have h1:=(Ay.mp c2).1;exact qj1 hk h1
    . obtain ⟨o,h⟩:=hS;rw[h];rfl
  obtain ⟨W,rfl,rfl,rfl,rfl,hP,ht⟩:=qro P3 w s1a mg mb g b nl cs hS;have F:Fac W:=quu hN hB hF (λi a o h=>hk a o (y3 i a o h)) hC ht bm;have hfa:fa=A23:=by
    have:=F.g_law;rw[hmg] at this;cases this;rfl
  subst hfa;have:=qpt (c:=c) (cl:=cl) (mean:=mean) (args:=args) (qni F hz 0) (by decide) hg ho hI ht hr hp E;rw[hP] at this;exact this
end
end Mine
open PySem.W.X Mine
set_option maxHeartbeats 8000000 in
theorem PySem.Challenge.cw_wb0045_01_holds : PySem.Challenge.rw_wb0045_01.Holds := by
  w_on
  refine holds_law k1 λsaid=>?_
  refine holds_openX (q:=Qv) (loose:=Lv0) (Xt:=λs=>xlAt Qv [] s&&recOk (RowW.records PySem.Challenge.rw_wb0045_01.row.toRowW) s) (XP:=XL Qv []) (Yf:=yf) (Ya:=ya) (N:=2000) ?hl (λs e=>xl_of s (Ay.mp e).1) XL.keeps (by rfl) (by rfl) (by rfl) (λs e=>recFacts_of (Ay.mp e).2) (by rfl) said (by decide +kernel) ⟨rfl,rfl,rfl,rfl,rfl,by decide +kernel⟩ ?hw ?hc;case hw=>w_witness2
  case hl=>exact LeftO.of_split "special-get-raises" (λw=>by kernel_rfl)
  intro w s0 s1a mg mb G Y fa o pm cd doc dV kV ho hd hcd hD hmg hg args vals as L hpre hlay hrd hwl hlo;refine Ground.open G ?_;intro T B D TE TW
  wrow_args hpre hlay hrd hwl hlo
  obtain ⟨hat,hsz⟩:=script_at L;subst hat
  rename Hn _ _=>hI
  rename Heap.IsList _ _ _=>hL
  have hol:=script_obj L hL;refine fin Y L.keeps hg T.g T.b T.nolimit T.nodigits T.builtins T.bmain hmg hol hI ?_ (λ_=>rfl) ?_ _
  . omega
  . wrow_post
