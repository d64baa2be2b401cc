import PyProof.Rows.All
import PySem.Sre
import PyProof.FactsBase
import PyProof.PlainAttrs
import PyProof.TableTree
import PyProof.FactsTree
import PyProof.StrLawsReplace
import PyProof.StrLawsNeg
import KE.KIntText
import KE.KSortAsk
import Wide.FinOn
import OpenK.AllK
import Wide.All
import PySem.Challenge.RW_wv0018_02
open And renaming imp_right → Ma, elim → Ade, intro → Ad7
open Array renaming toList_append → Be, getD_eq_getD_getElem? → Dq, getElem?_eq_some_iff → Kx, toList_inj → Oj, length_toList → P4, getD → Q5, size_extract → Aye, size_append → Ay0, toList_push → Ay1, map_map → A8v
open Bool renaming and_eq_true → A0, and_eq_true_iff → Ca, false_eq_true → Ch, not_eq_true' → Fn, true_and → Fv, eq_iff_iff → Hv, false_ne_true → Q6, and_eq_false_iff → U9, false_and → Wb, or_false → Zb, not_eq_true → Adk, or_eq_true → A8c, not_false → A8w, false_or → Bbh, not_true → Bbi
open Classical renaming byContradiction → Aa
open Eq renaming trans → Oc, mp → V4
open Except renaming ok → Alp
open Exists renaming elim → Ks, imp → Aga
open ForIn renaming forIn → Adl
open ForInStep renaming yield → He
open Int renaming natCast_nonneg → By, le_of_lt → Co, natAbs_natCast → Dw, ofNat_le → D7, lt_of_lt_of_le → D9, eq_ofNat_of_zero_le → Ek, ofNat_lt → E3, fdiv_eq_ediv_of_nonneg → E9, le_trans → Fh, one_mul → Fs, ne_of_gt → F9, ofNat_inj → Ie, lt_of_le_of_lt → Im, add_comm → I5, mul_le_mul_of_nonneg_right → Jk, pow_pos → Jy, mul_comm → J5, add_nonneg → K6, fmod_eq_emod_of_nonneg → K7, not_lt → K8, emod_nonneg → Me, emod_lt_of_pos → Mn, pow_add → Mx, add_zero → N3, lt_trans → N4, natAbs_neg → N5, mul_assoc → O9, natAbs_of_nonneg → P1, add_mul → Sw, add_assoc → S6, sub_sub_self → T6, ediv_nonneg → Va, ediv_lt_of_lt_mul → V5, emod_add_mul_ediv → V6, mul_nonneg → Xu, neg_neg → Xv, toNat_of_nonneg → Zc, emod_eq_of_lt → Adf, toNat_natCast → Adg, le_refl → Agb, natCast_mul → Aif, natCast_pow → Aig, ediv_ediv_of_nonneg → Aqq, ediv_eq_zero_of_lt → Asr, emod_def → Ass, ne_of_lt → Ast, zero_add → Asu, add_mul_ediv_left → Ate, ediv_emod_unique → Ayf, le_sub_one_of_lt → Ayg, mul_add → Ayh, neg_mul → Ayi, sub_nonneg_of_le → Ayj, add_lt_add_left → Ay2, add_right_comm → A2x, add_sub_cancel → A2y, sub_eq_add_neg → A2z, ofNat_ne_zero → A4h, min_eq_left → A8x, natCast_add → A8y, natCast_sub → A8z, neg_mul_neg → A80, sub_le_self → A81, sub_lt_self → A82, neg_le_neg → Bbj
open LawfulBEq renaming eq_of_beq → Ew
open List renaming mem_cons_self → An, getElem?_eq_some_iff → Aq, length_append → As, mem_cons → Av, append_assoc → Az, mem_cons_of_mem → A4, mem_singleton → A6, replicate → Bb, all_eq_true → Bd, prefix_refl → Bi, mem_map → Bj, length_map → Bn, mem_of_getElem? → Bo, getElem?_eq_getElem → Bx, getElem?_map → B0, mem_append → B6, getD_eq_getElem?_getD → B7, drop_eq_getElem_cons → Cc, mem_singleton_self → Cd, take_of_length_le → Cj, append_nil → Ct, getElem?_append_left → Cz, nodup_cons → C4, mem_map_of_mem → C6, length_drop → D0, size_toArray → D4, getElem?_toArray → Ed, length_take → Ef, take_length → Eg, getElem?_eq_none_iff → Ep, idxOf_lt_length_of_mem → E2, getElem?_append_right → E8, getElem?_set_self → Fe, lookup_cons → Ff, all_cons → Fw, map_append → F5, map_map → F6, range → Gb, getElem?_set_ne → Gf, mem_append_left → Gg, getElem?_concat_length → Gl, drop_eq_nil_of_le → Gx, drop_zero → Gy, length_pos_iff → G4, set_append_right → G7, getElem?_of_mem → Hf, filter_cons_of_pos → Ho, nodup_append → Hp, length_reverse → H3, mem_filterMap → Ig, getElem?_eq_none → Io, forIn_cons → Iw, contains_eq_mem → Iy, reverse_cons → Iz, replicate_succ → Je, filter_cons_of_neg → Jg, flatMap_map → Jh, drop_of_length_le → Jz, getElem?_take → J0, contains_iff_mem → Kj, length_singleton → Kk, mem_append_right → Kl, exists_cons_of_ne_nil → K0, take_left → K1, not_mem_nil → Le, sum_cons → Lw, all_append → Mb, length_set → Mc, getElem_idxOf → Mf, length_eq_zero_iff → Mo, flatMap_cons → Ng, lt_irrefl → Nh, take_succ_eq_append_getElem → Ni, length_cons → Oq, nil_sublist → Os, take_succ_cons → P7, forIn_nil → Q7, drop_sublist → Sk, push_toArray → Sm, take_sublist → Sn, flatMap_def → S8, getElem_mem → S9, isEmpty_iff → Ta, mem_reverse → Tc, drop_drop → Wc, map_congr_left → X4, getElem?_drop → Zv, pairwise_cons → Zw, any_map → Aar, flatten_cons → Aas, all_flatMap → Adm, map_toArray → Adn, take_append_of_le_length → Ad8, dropLast_concat_getLast → Agc, all → Aip, mem_range → Aiq, takeWhile_cons_of_neg → Air, takeWhile_cons_of_pos → Ais, getElem?_zip_eq_some → Alq, getLast?_eq_none_iff → Alr, map_take → Alw, getElem?_replicate → Aof, all_map → Aqr, dropWhile_sublist → Aqs, sublist_cons_self → Aqt, sum_nil → Aqu, takeWhile_sublist → Aqv, concat_eq_append → Asv, eq_nil_or_concat → Asw, length_filter_le → Asx, length_replicate → Asy, replicate_succ' → Atf, dropLast_concat → Atg, getLast?_concat → Ath, length → Ati, mem_of_getLast? → Atj, mem_of_mem_drop → Atk, mem_of_mem_take → Atl, reverse_reverse → Atm, append_toArray → Ayk, getElem?_range → Ayl, map_eq_nil_iff → Aym, length_zipIdx → Ay3, prefix_append → Ay4, any_eq_false → A20, ext_getElem? → A21, isEmpty_cons → A22, any_eq_true → A4i, cons_ne_nil → A4j, getElem_inj → A4k, map_reverse → A4l, perm_middle → A4m, reverse_nil → A4n, idxOf_cons → A8d, mem_filter → A8e, drop_left → A83, nodup_nil → A84, takeWhile → A85, any_cons → Bbk, lt_asymm → Bbl, map_drop → Bbm
open List.Pairwise renaming nil → Ait
open List.Perm renaming swap → Adh, cons → Ayn
open List.Sublist renaming refl → G9
open List.cons renaming inj → Hw
open Nat renaming le_trans → Ab, lt_of_le_of_lt → Ah, le_of_lt_succ → Ai, le_of_eq → Aj, add_le_add_left → Ar, le_refl → At, mul_le_mul_left → Au, add_le_add → Ax, lt_of_lt_of_le → Ay, succ_le_succ → A3, le_of_lt → Ba, le_add_right → Bl, le_of_add_right_le → Bm, add_le_add_right → Bp, le_add_left → Br, zero_le → Cb, zero_add → Cg, add_sub_cancel_left → Cn, le_of_not_lt → Cq, mod_lt → Cr, add_comm → Cu, lt_trans → Cv, not_lt_of_le → C0, add_sub_cancel' → C8, add_right_comm → Dg, add_assoc → Dj, le_of_sub_eq_zero → Dm, lt_succ_of_le → Dt, sub_le → Dy, lt_of_le_of_ne → Ea, le_of_ble_eq_true → Ee, le_antisymm → Eh, le_succ_of_le → El, lt_irrefl → Em, pow_le_pow_right → Er, sub_add_cancel → Eu, div_lt_of_lt_mul → Fa, succ_le_of_lt → Ft, ne_of_gt → Ga, lt_succ_self → Gm, mul_le_mul_right → Gn, sub_le_sub_right → Go, min_le_left → G5, pos_of_ne_zero → Ha, zero_lt_of_lt → Hx, min_eq_left → H1, mul_comm → Ib, le_sub_one_of_lt → I6, lt_of_not_le → Jl, min_eq_right → Jm, le_succ → J1, ne_of_lt → J6, sub_lt_self → Ki, sub_ne_zero_of_lt → Kr, le_of_add_le_add_right → K9, pow_lt_pow_right → La, mul_succ → Lk, add_lt_add_left → Lr, pos_iff_ne_zero → Lu, sub_le_iff_le_add' → N6, add_sub_of_le → N7, le_mul_of_pos_left → N8, le_of_succ_le → N9, sub_pos_of_lt → Oa, sub_zero → Ob, add_le_of_le_sub' → Ot, add_lt_of_lt_sub' → Ou, le_div_iff_mul_le → Ov, sub_eq_zero_of_le → Ow, add_add_add_comm → P2, sub_le_of_le_add → P3, add_lt_add_of_le_of_lt → Rw, lt_one_iff → Rx, not_le → Ry, lt_succ_of_lt → Sx, le_mul_of_pos_right → T7, lt_add_of_pos_right → T8, div_div_eq_div_mul → Uv, pow_succ → Uw, div_le_self → Vb, not_lt_zero → Vc, mul_le_mul → Xw, pow_pos → Xx, sub_one_lt_of_le → Xy, add_left_cancel → Zd, sub_lt_sub_left → Ze, add_sub_cancel → Z5, min_le_right → Ad9, not_le_of_lt → Aea, log2_lt → Agd, two_mul → Age, div_add_mod → Aih, not_lt → Als, le_of_succ_le_succ → Asz, sub_add_sub_cancel → As0, sub_self → As1, div_lt_iff_lt_mul → Atn, add_lt_add_right → Ayo, mul_two → Ayp, one_mul → Ayq, sub_lt_sub_right → Ayr, succ → Ays, eq_zero_or_pos → A23, max_le → A24, lt_of_succ_lt → A4o, div_eq_of_lt → A8f, sub_sub_self → A8g, succ_ne_zero → A8h, strongRecOn → A86, mul_div_le → Bbn
open Nat.succ renaming inj → Hy
open Ne renaming symm → Vd
open Option renaming isSome_iff_exists → Dh, none → H7, map → I0, isSome_some → Jn, isNone_iff_eq_none → Aii, map_eq_none_iff → Alx
open Option.some renaming inj → Af
open Prod renaming snd → Aiu, fst → Ato, ext → A87
open PyProof.Rows renaming seqObj → J7, AllBare → Lf, StrsAre → Md, truthy_int → Adi, len_str → Agf, Subscript_ → As2, tail_any → As3, subscriptTail → Ayt, Call_ → A8i
open PyProof.Rows.LSm renaming sum_ints → A88
open PySem renaming Value → Ac, Shared → Ad, wpAny_bind → Ag, wpAny_pure → Al, wpAny → A1, Around → Bs, wpAny_holding → Ci, sizeLine_eq → C7, wpAny_standAt → Df, mainGlobals → Di, wpAny_mono → Do, strValues → D8, NameKind → Eb, starEach → E7, wpAny_Name → Fi, swapsWith → Fo, builtinsNs → F2, World → F7, builtinLookup_eq_fast → Gc, swappedStores → Gd, compareOp → Gu, cellsFrom → G8, rawInt → Hb, Comprehension → Hr, ExcName → Hs, cStatics → H2, Program → Ia, Result → Ic, codeAny → I1, pushCells → Jb, typeLookup_type → Jc, FuncData → J8, isSubtype_type → J9, valueOrNone → Km, sizeLine → Ky, foldedSetIterable → Lg, wpAny_Call_method → Lh, wpAny_newObj_type → Li, binaryOp → Lv, Model → Mg, wpAny_Assign_stores → Mp, Scope → M6, plainId_quiet → M7, codeAny_builtin → Nj, wpAny_with_toks → Nk, wpAny_callSpecial?_slot → Od, wpAny_field → Oe, call_meets → P8, entryFor_of_tree → P9, typeIs_str → Qa, attributeBase → Qo, letOwnedTupleGo → Rz, codeAmong → Sy, numTextOf → Sz, wpAny_rule → S7, evalOpt → Uo, checkBuiltinCall → V7, entryFor → V8, wpAny_call_entry → V9, wpAny_load → Xz, pushCells_keeps → X5, wpAny_updateSeq → X6, codeAny_call_function → Zf, markTheRefusal → Z6, newEnv → Z7, pyIter → Z8, noteFrame → Aat, signature?_of → Ado, wpAny_newList → Adp, argsOk → Aeb, assignEach → Aec, backTo → Aed, wpAny_call → Aee, bootBuiltins → Aij, standAt → Aik, wpAny_mkText → Ail, numSeenOf → Alt, storeName → Alu, leftWithCleanup_false_of_bare → Aly, wpAny_mkInt → Alz, callerA → Aqw, notedBy → Aqx, Params → As4, PyData → As5, Reads → As6, bindName → As7, letTemporaryGo → As8, newFunctionEnv → As9, pyNext → Ata, recursionLimit → Atb, wpAny_bindName → Atc, codeAny_call_builtin_code → Atp, ExceptHandler → Ayu, behindInMarks → Ayv, wpAny_attempt → Ayw, DictEntry → Ay5, Meets → Ay6, TriplesOk → Ay7, isSubtype → Ay8, outcomeOf → Ay9, seqIndex? → Aza, callSpecial? → A25, bindArgs → A8j, callWith → A8k, newTuple → A8l, seen_length → A8m, unpackItems → A8n, wpAny_loadName_local → A8o, wpAny_of_eq → A8p, wpAny_pyIter_revIter → A8q, builtinType_eq_fast → A89, wpAny_loadName_cell → A9a, BoolOp → Bbo, PlainAttrs → Bbp, closureFor → Bbq, typeOf → Bbr, wpAny_List_spliced → Bbs, wpAny_isTrue_value → Bbt, wpAny_pyIter_tuple → Bbu
open PySem.Around renaming frames_deeper → Aqy, under_plainId → Aqz
open PySem.AutoSeq1 renaming wpAny_loadPart' → Cf
open PySem.Builtin renaming divisionGoesByPylong → Adj, bitXor → Aef
open PySem.Builtin.Int renaming intBits → Bu
open PySem.Builtin.List renaming listTooLong → P5, listFitsIndex → Zx
open PySem.Calls renaming callWith_builtin → Gv, loadGlobal_builtin → Hi, spliced_cons → Jf, loadGlobal_global → Lj, spliced_nil → O7, callWith_function → Aim
open PySem.Code renaming builtin → Aq0, quiet_builtin → Azb
open PySem.ExcName renaming means → R0
open PySem.Expr renaming GeneratorExp → A26
open PySem.F renaming plainAttrs_list → Dv, plainAttrs_str → Jq, slot_tuple_iterator_next → Ll, plainAttrs_int → Ain, args_tuple_iterator_next_1 → Alv, entry_tuple_iterator_next → Al0
open PySem.Heap renaming get?_push_size → Cy, lt_size → D5, size_push → Fx, get?_push_of_some → J2, ExtBut → Mq, SameBut → Aq1, get?_update_ne → Ayx, get?_push_ne → A27
open PySem.Heap.Ns renaming new → Aog
open PySem.Heap.SameBut renaming update → Es
open PySem.IsL renaming isList → Ux, update → Uy
open PySem.IsRange renaming new → A9b
open PySem.Manifest renaming owners → Ayy
open PySem.NameKind renaming free → Gp, cell → Wa
open PySem.Obj renaming mapSeq → Fp, data_mapFields → A28
open PySem.PyData renaming canLayAll0 → Gs, depthAll → Iu, weightAll → Aau, weight → Aiv, layable0 → A29, canLay0 → A4p, depth → A9c
open PySem.Sem renaming wp_mono → X0
open PySem.Sre renaming Seen → De, Frame → Q8, run → Uz, M → Zy, Kept → Bbv
open PySem.Str renaming cps_append → B4, length_append → C5, join → I7, length → R1
open PySem.StrLaws renaming glued_eq_join → Ka
open PySem.Txt renaming join → Cs, strip → Fj, replace → J3, contains → Kb, slice → Aeg
open PySem.Unicode renaming isSpace → C9
open PySem.Value renaming none → Jr, int → Mh, str → Mi, ref → Ol, isStrOf → X7, bool → Zg
open PySem.Value.ref renaming inj → Aeh
open PySem.W renaming ks_loadName_global → Dp, tabObj → Qb, kms_lo → X3, kms_hi → Aei, layAllW_rest → Aio, kas_rev → Aq2, kdpLook → Aq3, fnMade → Atd, hideAll → A3a, hideAll_none → A3b, typeIs_bytes → A3c, codeHd_of_K → A8r, hideAll_get → A8s, codeRec_of → Bbw
open PySem.W.FB renaming slot_bytes_getitem → Ayz
open PySem.W.WData renaming layableAll → A3d
open PySem.WalksT renaming enumerate → Azc
open String renaming ofList → A8t, toList → A8u
open ToString renaming toString → Kz
open UInt8 renaming ofNat → Db
open PySem
open PySem.Str renaming ofString → oS
set_option Elab.async false
set_option maxRecDepth 100000
set_option autoImplicit false
set_option linter.all false
set_option genSizeOf false
set_option tactic.hygienic false
set_option bootstrap.genMatcherCode false
set_option compiler.extract_closed false
set_option exponentiation.threshold 3000
set_option maxHeartbeats 8000000
namespace Mine
section
open PySem
theorem exe2.{uxa,uxb}{a:Sort uxa}{b:Sort uxb}{P:a->b->Prop}{G:Prop}(z:∃M x,P M x)(k:∀M x,P M x->G):G:=z.elim fun M z=>z.elim fun x z=>k M x z
theorem exi2.{uxa,uxb}{a:Sort uxa}{b:Sort uxb}{P:a->b->Prop}(M:a)(xb:b)(z:P M xb):∃M xb,P M xb:=⟨M,xb,z⟩
theorem exe3.{uxa,uxb,uxc}{a:Sort uxa}{b:Sort uxb}{c:Sort uxc}{P:a->b->c->Prop}{G:Prop}(z:∃M x e,P M x e)(k:∀M x e,P M x e->G):G:=z.elim fun M z=>z.elim fun x z=>z.elim fun e z=>k M x e z
theorem exi3.{uxa,uxb,uxc}{a:Sort uxa}{b:Sort uxb}{c:Sort uxc}{P:a->b->c->Prop}(M:a)(x:b)(xc:c)(z:P M x xc):∃M x xc,P M x xc:=⟨M,x,xc,z⟩
theorem exe4.{uxa,uxb,uxc,uxd}{a:Sort uxa}{b:Sort uxb}{c:Sort uxc}{d:Sort uxd}{P:a->b->c->d->Prop}{G:Prop}(z:∃M x e g,P M x e g)(k:∀M x e g,P M x e g->G):G:=z.elim fun M z=>z.elim fun x z=>z.elim fun e z=>z.elim fun g z=>k M x e g z
theorem exi4.{uxa,uxb,uxc,uxd}{a:Sort uxa}{b:Sort uxb}{c:Sort uxc}{d:Sort uxd}{P:a->b->c->d->Prop}(M:a)(x:b)(e:c)(xd:d)(z:P M x e xd):∃M x e xd,P M x e xd:=⟨M,x,e,xd,z⟩
theorem exe5.{uxa,uxb,uxc,uxd,uxe}{a:Sort uxa}{b:Sort uxb}{c:Sort uxc}{d:Sort uxd}{f:Sort uxe}{P:a->b->c->d->f->Prop}{G:Prop}(z:∃M x e g i,P M x e g i)(k:∀M x e g i,P M x e g i->G):G:=z.elim fun M z=>z.elim fun x z=>z.elim fun e z=>z.elim fun g z=>z.elim fun i z=>k M x e g i z
theorem exi5.{uxa,uxb,uxc,uxd,uxe}{a:Sort uxa}{b:Sort uxb}{c:Sort uxc}{d:Sort uxd}{f:Sort uxe}{P:a->b->c->d->f->Prop}(M:a)(x:b)(e:c)(g:d)(xe:f)(z:P M x e g xe):∃M x e g xe,P M x e g xe:=⟨M,x,e,g,xe,z⟩
theorem exe6.{uxa,uxb,uxc,uxd,uxe,uxf}{a:Sort uxa}{b:Sort uxb}{c:Sort uxc}{d:Sort uxd}{f:Sort uxe}{h:Sort uxf}{P:a->b->c->d->f->h->Prop}{G:Prop}(z:∃M x e g i l,P M x e g i l)(k:∀M x e g i l,P M x e g i l->G):G:=z.elim fun M z=>z.elim fun x z=>z.elim fun e z=>z.elim fun g z=>z.elim fun i z=>z.elim fun l z=>k M x e g i l z
theorem exi6.{uxa,uxb,uxc,uxd,uxe,uxf}{a:Sort uxa}{b:Sort uxb}{c:Sort uxc}{d:Sort uxd}{f:Sort uxe}{h:Sort uxf}{P:a->b->c->d->f->h->Prop}(M:a)(x:b)(e:c)(g:d)(i:f)(xf:h)(z:P M x e g i xf):∃M x e g i xf,P M x e g i xf:=⟨M,x,e,g,i,xf,z⟩
theorem exe7.{uxa,uxb,uxc,uxd,uxe,uxf,uxg}{a:Sort uxa}{b:Sort uxb}{c:Sort uxc}{d:Sort uxd}{f:Sort uxe}{h:Sort uxf}{j:Sort uxg}{P:a->b->c->d->f->h->j->Prop}{G:Prop}(z:∃M x e g i l m,P M x e g i l m)(k:∀M x e g i l m,P M x e g i l m->G):G:=z.elim fun M z=>z.elim fun x z=>z.elim fun e z=>z.elim fun g z=>z.elim fun i z=>z.elim fun l z=>z.elim fun m z=>k M x e g i l m z
theorem exi7.{uxa,uxb,uxc,uxd,uxe,uxf,uxg}{a:Sort uxa}{b:Sort uxb}{c:Sort uxc}{d:Sort uxd}{f:Sort uxe}{h:Sort uxf}{j:Sort uxg}{P:a->b->c->d->f->h->j->Prop}(M:a)(x:b)(e:c)(g:d)(i:f)(l:h)(xg:j)(z:P M x e g i l xg):∃M x e g i l xg,P M x e g i l xg:=⟨M,x,e,g,i,l,xg,z⟩
theorem exe8.{uxa,uxb,uxc,uxd,uxe,uxf,uxg,uxh}{a:Sort uxa}{b:Sort uxb}{c:Sort uxc}{d:Sort uxd}{f:Sort uxe}{h:Sort uxf}{j:Sort uxg}{n:Sort uxh}{P:a->b->c->d->f->h->j->n->Prop}{G:Prop}(z:∃M x e g i l m o,P M x e g i l m o)(k:∀M x e g i l m o,P M x e g i l m o->G):G:=z.elim fun M z=>z.elim fun x z=>z.elim fun e z=>z.elim fun g z=>z.elim fun i z=>z.elim fun l z=>z.elim fun m z=>z.elim fun o z=>k M x e g i l m o z
theorem exi8.{uxa,uxb,uxc,uxd,uxe,uxf,uxg,uxh}{a:Sort uxa}{b:Sort uxb}{c:Sort uxc}{d:Sort uxd}{f:Sort uxe}{h:Sort uxf}{j:Sort uxg}{n:Sort uxh}{P:a->b->c->d->f->h->j->n->Prop}(M:a)(x:b)(e:c)(g:d)(i:f)(l:h)(m:j)(xh:n)(z:P M x e g i l m xh):∃M x e g i l m xh,P M x e g i l m xh:=⟨M,x,e,g,i,l,m,xh,z⟩
theorem Wp {n s d:Nat}(h:n-s=d+1):n-(s+1)=d:=congrArg Nat.pred h
theorem Qd {n s d:Nat}(h:n-s=d+1):s<n:=Nat.lt_of_sub_ne_zero (h▸A8h d)
theorem A5l {n s:Nat}(h:n-s=0):n<=s:=Dm h
theorem Auq {n s:Nat}(h:n-s=0)(q:s<=n):s=n:=Eh q (Dm h)
theorem Tj {n s:Nat}(h:s<n):n-s=n-s-1+1:=(Eu (Oa h)).symm
theorem A96 {n s:Nat}(h:s<n):n-s=n-(s+1)+1:=Tj h
theorem Abc {v:Nat}(h:v<=4)(p:1<=v):v=1\/v=2\/v=3\/v=4:=by
 revert v;decide
theorem Aup {n s:Nat}(h:s<n):¬n-s=0:=Kr h
theorem Ai9 (a b:Nat):a+1+b=a+(b+1):=Nat.succ_add_eq_add_succ a b
theorem Aba {a b c:Nat}(h:a+(b+1)<=c):a+1+b<=c:=Ai9 a b▸h
theorem A3o {a b c:Nat}(h:a+(b+1)=c):a+1+b=c:=(Ai9 a b).trans h
theorem Vi {a b:Nat}(h:a<=b)(q:¬b=a):a<b:=Ea h (Vd q)
theorem Baa {v:Nat}(h:v<3):v=0\/v=1\/v=2:=by revert v;decide
theorem A3t {v:Nat}(h:v<4):v=0\/v=1\/v=2\/v=3:=by revert v;decide
theorem A3u {v:Nat}(h:v<5):v=0\/v=1\/v=2\/v=3\/v=4:=by revert v;decide
theorem Aur {v:Nat}(h:v<10):v=0\/v=1\/v=2\/v=3\/v=4\/v=5\/v=6\/v=7\/v=8\/v=9:=by revert v;decide
theorem A5k {n s:Nat}(h:s+1<=n):n-(s+1)+1=n-s:=Eu (Oa h)
theorem Aou {a b:Nat}(h:a<b):(a+b)/2<b:=Fa (Age b▸Ayo h b)
theorem Ami {a b:Nat}(h:a<=b):a<=(a+b)/2:=(Ov (by decide)).mpr (Ayp a▸Ar h a)
theorem Ag2 {a b c:Nat}(h:a<b)(q:b<=c):c-b<c-a:=Ze (Ay h q) h
theorem A94 {a b c k:Nat}(h:a-b<=k+1)(q:b<c)(r:c<=a):a-c<=k:=Ai (Ay (Ag2 q r) h)
theorem A95 {a b c k:Nat}(h:a-b<k+1)(q:b<c)(r:c<=a):a-c<k:=Ay (Ag2 q r) (Ai h)
theorem A3p (n:Nat):(-(n:Int)).natAbs=n:=(N5 _).trans (Dw n)
theorem Aun {i:Int}{n:Nat}(h:0<=i)(q:i<n):i.natAbs<n:=E3.mp (P1 h▸q)
theorem Amh {a b:Nat}(h:a<=b):(a:Int)<=b:=D7.mpr h
theorem Aot {a b:Nat}(h:b<=a):(a:Int)-b=(a-b:Nat):=(Int.ofNat_sub h).symm
theorem A3r (a b:Nat):((a:Int)-b).toNat=a-b:=Int.toNat_sub a b
theorem A3q {n p a d:Nat}(h:a-p=d+1)(k:a<=n):p<n:=Ay (Qd h) k
theorem A5j {n p a d:Nat}(h:a-p=d+1)(k:a<=n):n-p=n-(p+1)+1:=A96 (Ay (Qd h) k)
theorem Abb {a b c:Nat}(h:a+(b+1)<=c):a<c:=Ay (T8 (Nat.succ_pos b)) h
theorem Amj {a b c:Nat}(h:a+(b+1)=c):a<c:=Abb (Aj h)
theorem Aum {a b c:Nat}(h:1<=a)(k:a+(b+1)<=c):a-1<c:=Ah (Dy a 1) (Abb k)
theorem A5f {a b:Nat}(h:b<=a):a=a-b+b:=(Eu h).symm
theorem A0e {a b:Nat}(h:b<=a):a=b+(a-b):=(N7 h).symm
theorem A9u {a b:Nat}(h:b<a)(k:a-b<=1):a=b+1:=Eh (N6.mp k) h
theorem Ag1 {a b k m:Nat}(h:a<=k*m)(q:b<=k):b+a<=k*(m+1):=(Cu b a).symm▸Ax h q
theorem Bco {a b c d:Nat}:a+b+c+d=a+(b+(c+d)):=(Dj _ _ _).trans (Dj _ _ _)
theorem A90 {a b:Nat}(h:b<=a):a-b+min b a=a:=(H1 h).symm▸Eu h
theorem A9x {l r f:Nat}(h:r-l<=f+1)(q:l<r):(l+r)/2-l<=f:=Ai (Ay (Ayr (Ami (Ba q)) (Aou q)) h)
theorem A9y {l r f:Nat}(h:r-l<=f+1)(q:l<r):r-((l+r)/2+1)<=f:=Ai (Ay (Ze q (Dt (Ami (Ba q)))) h)
theorem A99 (n:Nat):0<=((65+n%16:Nat):Int)/\((65+n%16:Nat):Int)<256:=⟨By _,E3.mpr (Ah (Ar (Ai (Cr n (by decide))) 65) (by decide))⟩
theorem A91 {a b:Int}(h:0<=a)(q:a<=b):a.natAbs<=b.natAbs:=D7.mp ((P1 h).symm▸(P1 (Fh h q)).symm▸q)
theorem Aul {a b:Nat}(h:2<=b)(q:a<=2+(b-2)):a<=b:=(N7 h)▸q
theorem A0f {a q q':Nat}(h:1<=q)(h':1<=q')(e:a+3*q-3=a+3*q'-3):q=q':=Nat.eq_of_mul_eq_mul_left (show 0<3 by decide) (Zd (((Eu (Ab (Au 3 h) (Br _ _))).symm.trans (congrArg (·+3) e)).trans (Eu (Ab (Au 3 h') (Br _ _)))))
theorem A3s (n:Nat):(-1+((n+1:Nat):Int)).toNat=n:=congrArg Int.toNat (show -1+((n:Int)+1)=n by rw[I5,Int.add_neg_one];exact A2y _ _)
theorem A5g {m k:Nat}(hk:k<m)(L:¬((0<=k/\k<0+(m-0)/2)\/(m-(m-0)/2<=k/\k<m))):m-1-k=k:=by
 have U:m/2<=k:=Cq fun q=>L (.inl ⟨Cb _,(Cg _).symm▸q⟩);have O:k+m/2<m:=Nat.add_lt_of_lt_sub (Jl fun q=>L (.inr ⟨q,hk⟩));have C:m<2*(m/2+1):=Nat.lt_mul_div_succ m (by decide);clear L;generalize m/2=h at U O C;have e:k=h:=Eh (K9 (b:=h) (Ab (Asz (Ab O (Ai C))) (Aj (Age h)))) U;subst e;rw[Eh (Ai C) (Ah (Aj (Age k)) O)];show 2*k-k=k;rw[Age,Z5]
theorem A5h {m k:Nat}(hk:¬k<m):¬((0<=k/\k<0+(m-0)/2)\/(m-(m-0)/2<=k/\k<m)):=fun q=>q.elim (fun q=>hk (Ay q.2 ((Cg ((m-0)/2)).symm▸Vb m 2))) fun q=>hk q.2
theorem A92 {f l r:Nat}(h:l<r)(q:r<=f):(l+r)/2<f:=Ay (Aou h) q
theorem Auo (c:Nat){v:Nat}(h:v<=4):c%6+3*v-3<15:=Ah (Go (Ax (Ai (Cr c (by decide))) (Au 3 h)) 3) (by decide)
theorem Vh {s n i:Nat}{P:Prop}(h:¬s<n)(u:s<=i)(B:i<n):P:=absurd (Ah u B) h
theorem A3m {P:Nat->Prop}(I:P 0)(U:P 1)(O:P 2)(C:P 3)(G:P 4)(R:P 5)(r:P 6)(K:P 7)(W:P 8)(e:P 9):∀k,k<10->P k:=fun k h=>by
 rcases Aur h with rfl|rfl|rfl|rfl|rfl|rfl|rfl|rfl|rfl|rfl<;>assumption
theorem A9w {x n:Nat}(h:x+1<=n):∃m,n=(m+1)+x:=⟨n-(x+1),by rw[Dj,Cu 1 x];exact(Eu h).symm⟩
theorem A93 {x e m n:Nat}(p:1<=e)(h:x+(e+n)<=m+1+x):n<=m:=Asz (Ab (Ab (Aj (Cu n 1)) (Bp p n)) (Nat.le_of_add_le_add_left (Ab h (Aj (Cu (m+1) x)))))
theorem A9t {x b c d e:Nat}(h:b+c=d+e):x+b+(c+1)=x+d+(e+1):=congrArg (·+1) ((Dj x b c).trans ((congrArg (x+ ·) h).trans (Dj x d e).symm))
theorem A9s {x b c d e:Nat}(h:b+c=d+e)(R:x=1):x+b+(c+1+1)=x+(x+d)+(e+1):=by
 subst R;exact congrArg (·+1) (((congrArg (·+1) ((Dj 1 b c).trans (congrArg (1+ ·) h))).trans (congrArg (1+ ·) (Cu (d+e) 1))).trans ((congrArg (1+ ·) (Dj 1 d e).symm).trans (Dj 1 (1+d) e).symm))
theorem A9v (U Y R C:Int):U-1-(R+C)+(U* -1-Y)= -(Y+R+C)-1:=by lia
theorem A98 {n a b k:Nat}(h:4*n<=k)(U:0<a)(O:0<b):4*(n+1)<=a+(b+1)+1+k:=Ab (Bp h 4) (Ab (Aj (Cu k 4)) (Bp (A3 (Ax U (A3 O))) k))
theorem A9r {n f:Nat}(h:4*(n+1)+1<=f+4):4*n+1<=f:=K9 (b:=4) (Ab (Aj (Dg (4*n) 1 4)) h)
theorem A97 {f r p a b:Nat}(u:f<=3*p+(a-p))(j:r<=2)(U:p<=a)(O:a<b):f+r<=3*b:=Ab (Ax u j) (Ab (Bp (Ab (Ar (N8 (a-p) (by decide)) (3*p)) (Aj ((Nat.mul_add 3 p (a-p)).symm.trans (congrArg (3* ·) (N7 U))))) 2) (Ab (J1 (3*a+2)) (Au 3 O)))
theorem A9z {a b c:Nat}(h:1<=a):c+(a+b)=a-1+b+1+c:=(Cu c (a+b)).trans (congrArg (·+c) ((Dg (a-1) b 1).trans (congrArg (·+b) (Eu h))).symm)
end
section
set_option autoImplicit true
open PySem.Sre
noncomputable def C2:Array Nat:= #[14,4,0,1,1,6,1,16,46,1]
noncomputable def N2:Nat->M->M
 |0,m=>m
 |n+1,m=>N2 n m.step
theorem Aqe (m:M):N2 0 m=m:=rfl
theorem Aqd (n:Nat)(m:M):N2 (n+1) m=N2 n m.step:=rfl
theorem Rt (a b:Nat)(m:M):N2 (a+b) m=N2 b (N2 a m):=by
 induction a generalizing m with
 |zero=>simp[Aqe]
 |succ a J=>rw[show a+1+b=(a+b)+1 from(Dg _ _ _)];exact J _
theorem F4 {m:M}(U:m.outcome=none)(O:m.answer=none)(C:m.pc<m.code.size):m.step=m.exec:=by
 unfold M.step;rw[U,O];simp[C]
theorem Qk {m:M}{y:Bool}{f:Q8}{r:List Q8}(U:m.outcome=none)(O:m.answer=some y)(C:m.frames=f::r):
  m.step=M.resume {m with answer:=none,frames:=r,weight:=m.weight-(1+f.kept.marks.size),pc:=f.pc,pos:=f.pos,outermost:=f.outermost} f y:=by
 unfold M.step;rw[U,O,C];simp
theorem Py {m:M}{y:Bool}(U:m.outcome=none)(O:m.answer=some y)(C:m.frames=[]):
  m.step={m with outcome:=some (if y then .matched else .failed)}:=by
 unfold M.step;rw[U,O,C];simp
theorem Apa {m:M}{b:Bool}(h:ops[m.word 0]?=some .AT)(Y:m.isAt (m.word 1)=.ok b):
  m.exec=if b then{m with seen:=(m.seen.add (m.word 0)).add (43+m.word 1),pc:=m.pc+2} else{m with seen:=(m.seen.add (m.word 0)).add (43+m.word 1),answer:=some false}:=by
 unfold M.exec;simp only[h];have:({m with seen:=m.seen.add (m.word 0)}:M).isAt (({m with seen:=m.seen.add (m.word 0)}:M).word 1)=.ok b:=Y;rw[this];cases b<;>rfl
theorem Apb {m:M}(h:ops[m.word 0]?=some .JUMP):m.exec={m with seen:=m.seen.add (m.word 0),pc:=m.pc+1+m.word 1}:=by
 unfold M.exec;simp only[h];rfl
theorem Arh {m:M}(h:ops[m.word 0]?=some .BRANCH)(H:m.inner=none):m.exec=M.alternative {m with seen:=m.seen.add (m.word 0)} (m.pc+1) {lastmark:=m.lastmark,lastindex:=m.lastindex}:=by
 unfold M.exec;simp only[h];rw[H];rfl
theorem Vq {m:M}(h:ops[m.word 0]?=some .SUCCESS)(B:m.wholeText=false)(a:(m.outermost&&(m.mustAdvance&&m.pos==m.start))=false):m.exec={m with seen:=m.seen.add (m.word 0),handed:=m.pos,answer:=some true}:=by
 unfold M.exec;simp only[h,B,Wb,Bbh];rw[if_neg (by simpa using a)];rfl
theorem Pl {m:M}(h:ops[m.word 0]?=some .LITERAL):m.exec=if m.pos<m.lim/\m.text.getD m.pos 0=m.word 1 then{m with seen:=m.seen.add (m.word 0),pc:=m.pc+2,pos:=m.pos+1} else{m with seen:=m.seen.add (m.word 0),answer:=some false}:=by
 unfold M.exec;simp only[h];by_cases I:m.pos<m.lim
 ·have L:ops[m.code.getD m.pc 0]?=some .LITERAL:=h;have B:itemWidth m.code m.pc=2:=by unfold itemWidth;rw[L]
  rw[if_neg (Ry.mpr (by assumption))];have:accepts m.code m.pc (m.text.getD m.pos 0) (m.seen.add (m.word 0))=.ok (m.text.getD m.pos 0==m.word 1,m.seen.add (m.word 0)):=by
   unfold accepts;rw[L];rfl
  rw[this];by_cases e:m.text.getD m.pos 0=m.word 1
  ·rw[if_pos ⟨I,e⟩,beq_iff_eq.mpr e,B]
  ·rw[if_neg (fun h=>e h.2),beq_eq_false_iff_ne.mpr e];rfl
 ·rw[if_pos (Cq I),if_neg (fun h=>I h.1)];rfl
theorem A3z {m:M}{b:Bool}{sn:De}(h:ops[m.word 0]?=some .IN)(I:m.pos<m.lim)(H:inSet m.code (m.text.getD m.pos 0) m.code.size (m.pc+2) true (m.seen.add (m.word 0))=.ok (b,sn)):
  m.exec=if b then{m with seen:=sn,pc:=m.pc+(1+m.word 1),pos:=m.pos+1} else{m with seen:=sn,answer:=some false}:=by
 unfold M.exec;simp only[h];have L:ops[m.code.getD m.pc 0]?=some .IN:=h;have B:itemWidth m.code m.pc=1+m.word 1:=by unfold itemWidth;rw[L];rfl
 rw[if_neg (Aea I)];have:accepts m.code m.pc (m.text.getD m.pos 0) (m.seen.add (m.word 0))=.ok (b,sn):=by
  unfold accepts;rw[L];exact H
 rw[this];cases b
 ·rfl
 ·simp only[B,if_true]
theorem Ari {m:M}(h:ops[m.word 0]?=some .IN)(I:¬m.pos<m.lim):m.exec={m with seen:=m.seen.add (m.word 0),answer:=some false}:=by
 unfold M.exec;simp only[h];rw[if_pos (Cq I)];rfl
theorem Vg {m:M}{alt:Nat}{kept:Bbv}(h:(m.code.getD alt 0==0)=false)(B:m.weight+1+kept.marks.size<=16777216):
  m.alternative alt kept={m with frames:={wait:=.nextBranch,pc:=alt,pos:=m.pos,outermost:=m.outermost,kept}::m.frames,weight:=m.weight+1+kept.marks.size,pc:=alt+1,handed:=m.pos}:=by
 unfold M.alternative;rw[if_neg (by simpa using h)];unfold M.attempt M.frame;rw[if_neg (by simpa using B)]
theorem A49 {m:M}{alt:Nat}{kept:Bbv}(h:(m.code.getD alt 0==0)=true):m.alternative alt kept={m with answer:=some false}:=by
 unfold M.alternative;rw[if_pos h];rfl
theorem Ag6 {m:M}{s:Nat}{first:Bool}(B:m.weight+1<=16777216):
  m.attemptAt s first={m with start:=s,pos:=s,lastmark:= -1,lastindex:= -1,frames:={wait:=.nextStart,pc:=m.pc,pos:=s,outermost:=first}::m.frames,weight:=m.weight+1,handed:=s,outermost:=first}:=by
 unfold M.attemptAt M.attempt;rw[if_neg (by simpa using B)];rfl
end
section
set_option autoImplicit true
open PySem.Sre
noncomputable def Rb (b:Nat)(m m':M):Prop:=∃k,k<=b/\N2 k m=m'
theorem Rb.refl {m:M}{b:Nat}:Rb b m m:=⟨0,Cb _,rfl⟩
theorem Rb.trans {a b:Nat}{m m' m'':M}(x:Rb a m m')(y:Rb b m' m''):Rb (a+b) m m'':=
 let ⟨k,U,W⟩:=x;let ⟨l,O,D⟩:=y;⟨k+l,(Ax U O),by rw[Rt,W,D]⟩
theorem Rb.le {a b:Nat}{m m':M}(x:Rb a m m')(h:a<=b):Rb b m m':=let ⟨k,U,W⟩:=x;⟨k,(Ab (by assumption) (by assumption)),W⟩
theorem Rb.one {m:M}:Rb 1 m m.step:=⟨1,At _,rfl⟩
theorem Rb.step {b:Nat}{m ma m':M}(e:m.step=ma)(y:Rb b ma m'):Rb (b+1) m m':=by
 subst e;exact(Rb.one.trans y).le (Aj (Cu _ _))
noncomputable def Pb (q:Nat->Nat->Prop)(s n:Nat):Option (Nat×Nat)->Prop
 |some (a,b)=>s<=a/\a<=n/\q a b/\∀i,s<=i->i<a->∀b,¬q i b
 |none=>∀i,s<=i->i<=n->∀b,¬q i b
noncomputable def M8 (m:M):Option (Nat×Nat)->Prop
 |some (a,b)=>m.outcome=some .matched/\m.start=a/\m.handed=b
 |none=>m.outcome=some .failed
noncomputable def q2 (T:Array Nat)(a b:Nat):Prop:=(a=0\/T.getD (a-1) 0=10)/\a<T.size/\T.getD a 0=46/\b=a+1
noncomputable def B2 (T:Array Nat)(s:Nat)(first:Bool)(sn:De):M:=
 {code:=C2,text:=T,lim:=T.size,start:=s,lastStart:=T.size,pc:=5,pos:=s,handed:=s,outermost:=first,marks:= #[],frames:=[{wait:=.nextStart,pc:=5,pos:=s,outermost:=first}],weight:=1,seen:=sn}
theorem Aow {T:Array Nat}{s:Nat}{first:Bool}{sn:De}{pc pos:Nat}(h:s<T.size):
  ({B2 T s first sn with pc:=pc,pos:=pos,answer:=some false}:M).step=B2 T (s+1) false sn:=by
 show(if s<T.size then _ else _)=_;rw[if_pos h];exact Ag6 (m:={B2 T s first sn with frames:=[],weight:=0}) (show 0+1<=16777216 by decide)
theorem Ajb {T:Array Nat}{s:Nat}{first:Bool}{sn:De}(pc pos:Nat)(h:¬s<T.size):
  ∃m',Rb 2 {B2 T s first sn with pc:=pc,pos:=pos,answer:=some false} m'/\m'.outcome=some .failed:=by
 have e:({B2 T s first sn with pc:=pc,pos:=pos,answer:=some false}:M).step={B2 T s first sn with frames:=[],weight:=0,answer:=some false}:=by
  show(if s<T.size then _ else _)=_;rw[if_neg h];rfl
 refine⟨_,Rb.step e (Rb.step (Py rfl rfl rfl) (Rb.refl (b:=0))),rfl⟩
theorem Arv (T:Array Nat):∀(d s:Nat) (first:Bool) (sn:De),T.size-s=d->s<=T.size->∃r m',Rb (10*(d+1)) (B2 T s first sn) m'/\Pb (q2 T) s T.size r/\M8 m' r:=by
 intro d;induction d with
 |zero=>
  intro s first sn hd l
  have a:¬s<T.size:=(C0 (Dm hd));have n:Pb (q2 T) s T.size none:=fun i U O b hq=>Vh a U hq.2.1;cases Y:(s==0||T.getD (s-1) 0==10) with
  |true=>
   have W:(B2 T s first sn).step={B2 T s first ((sn.add 6).add 44) with pc:=7}:=by
    rw[F4 rfl rfl (show 5<10 by decide)];exact(Apa (b:=true) rfl (by show Alp _=_;rw[<-Y];rfl))
   have D:({B2 T s first ((sn.add 6).add 44) with pc:=7}:M).step={B2 T s first (((sn.add 6).add 44).add 16) with pc:=7,answer:=some false}:=by
    rw[F4 rfl rfl (show 7<10 by decide),Pl rfl,if_neg (fun h=>a h.1)];rfl
   obtain⟨m',U,O⟩:=Ajb (first:=first) (sn:=(((sn.add 6).add 44).add 16)) 7 s a;exact⟨none,m',(Rb.step W (Rb.step D U)).le (by decide),n,O⟩
  |false=>
   have W:(B2 T s first sn).step={B2 T s first ((sn.add 6).add 44) with answer:=some false}:=by
    rw[F4 rfl rfl (show 5<10 by decide)];exact(Apa (b:=false) rfl (by show Alp _=_;rw[<-Y];rfl))
   refine Aa fun X=>?_;obtain⟨m',U,O⟩:=Ajb (first:=first) (sn:=((sn.add 6).add 44)) 5 s a;exact X ⟨none,m',(Rb.step W U).le (by decide),n,O⟩
 |succ d J=>
  intro s first sn hd l
  have a:s<T.size:=(Qd hd);have next:∀{sn'},(∀b,¬q2 T s b)->∃r m',Rb (10*(d+1)) (B2 T (s+1) false sn') m'/\Pb (q2 T) s T.size r/\M8 m' r:=fun hq=>by
   refine Aa fun P=>?_;obtain⟨r,m',U,O,C⟩:=J (s+1) false _ (Wp hd) (by assumption);refine P ?_;refine exi2 r m' ⟨U,?_,C⟩;cases r with
   |none=>exact fun i u B b=>if e:i=s then e▸hq b else O i (Vi u e) B b
   |some p=>exact⟨by have:=O.1;exact Bm this,O.2.1,O.2.2.1,fun i u B b=>if e:i=s then e▸hq b else O.2.2.2 i (Vi u e) B b⟩
  cases Y:(s==0||T.getD (s-1) 0==10) with
  |true=>
   have W:(B2 T s first sn).step={B2 T s first ((sn.add 6).add 44) with pc:=7}:=by
    rw[F4 rfl rfl (show 5<10 by decide)];exact(Apa (b:=true) rfl (by show Alp _=_;rw[<-Y];rfl))
   by_cases L:T.getD s 0=46
   ·have D:({B2 T s first ((sn.add 6).add 44) with pc:=7}:M).step={B2 T s first (((sn.add 6).add 44).add 16) with pc:=9,pos:=s+1}:=by
     rw[F4 rfl rfl (show 7<10 by decide),Pl rfl,if_pos ⟨a,L⟩];rfl
    have N:({B2 T s first (((sn.add 6).add 44).add 16) with pc:=9,pos:=s+1}:M).step={B2 T s first ((((sn.add 6).add 44).add 16).add 1) with pc:=9,pos:=s+1,handed:=s+1,answer:=some true}:=by
     rw[F4 rfl rfl (show 9<10 by decide),Vq rfl rfl (by show(first&&(false&&_))=false;simp)];rfl
    refine exi2 (some (s,s+1)) _ ⟨(Rb.step W (Rb.step D (Rb.step N (Rb.step (Qk rfl rfl rfl) (Rb.step (Py (y:=true) rfl rfl rfl) (Rb.refl (b:=0))))))).le (Br _ _),⟨At _,l,⟨by simpa using Y,a,L,rfl⟩,fun i u B=>by lia⟩,?_⟩;exact⟨rfl,rfl,rfl⟩
   ·have D:({B2 T s first ((sn.add 6).add 44) with pc:=7}:M).step={B2 T s first (((sn.add 6).add 44).add 16) with pc:=7,answer:=some false}:=by
     rw[F4 rfl rfl (show 7<10 by decide),Pl rfl,if_neg (fun h=>L h.2)];rfl
    refine exe2 (next (sn':=(((sn.add 6).add 44).add 16)) fun b hq=>L hq.2.2.1) fun r m' o=>?_;have U:=o.1;have O:=o.2.1;have C:=o.2.2;exact exi2 r m' ⟨(Rb.step W (Rb.step D (Rb.step (Aow a) U))).le (Lr (by decide) _),O,C⟩
  |false=>
   have W:(B2 T s first sn).step={B2 T s first ((sn.add 6).add 44) with answer:=some false}:=by
    rw[F4 rfl rfl (show 5<10 by decide)];exact(Apa (b:=false) rfl (by show Alp _=_;rw[<-Y];rfl))
   obtain⟨r,m',U,O,C⟩:=next (sn':=((sn.add 6).add 44)) fun b hq=>by
    have:=hq.1;simp only[Bool.or_eq_false_iff,beq_eq_false_iff_ne] at Y;rcases this with h|h
    ·exact Y.1 h
    ·exact Y.2 h
   exact exi2 r m' ⟨(Rb.step W (Rb.step (Aow a) U)).le (Lr (by decide) _),O,C⟩
theorem Aao {m:M}(D:m.outcome=none)(N:m.frames=[]):∃m',Rb 1 (m.say false) m'/\m'.outcome=some .failed:=
 ⟨_,Rb.step (Py (m:=m.say false) (y:=false) D rfl N) (Rb.refl (b:=0)),rfl⟩
noncomputable def Ael (code:Array Nat)(groups:Nat)(q:Array Nat->Nat->Nat->Prop):Prop:=
 ∀(T:Array Nat)(s:Nat),s<=T.size->∃r m',Rb (20*(T.size+2)) (forSearch code T groups s T.size false) m'/\Pb (q T) s T.size r/\M8 m' r
theorem Bce:Ael C2 0 q2:=by
 intro T s l;by_cases h:s<T.size
 ·have e:forSearch C2 T 0 s T.size false=B2 T s true (({}:De).add 14):=by
   show(if(decide (s>T.size)||decide (T.size-s<1))=true then _ else _)=_;rw[if_neg (by simp;exact⟨l,(Kr h)⟩)];exact Ag6 (m:={code:=C2,text:=T,lim:=T.size,start:=s,lastStart:=T.size,pc:=5,pos:=s,handed:=s,marks:= #[],seen:=({}:De).add 14}) (show 0+1<=16777216 by decide)
  refine exe2 (Arv T _ s true (({}:De).add 14) rfl l) fun r m' H=>?_;obtain⟨U,O,C⟩:=H;exact(⟨r,m',by rw[e];exact U.le (Xw (by decide) (A3 (El (Dy _ _)))),O,C⟩)
 ·have W:forSearch C2 T 0 s T.size false=M.say {code:=C2,text:=T,lim:=T.size,start:=s,pc:=5,pos:=s,handed:=s,marks:= #[],seen:=({}:De).add 14} false:=by
   show(if(decide (s>T.size)||decide (T.size-s<1))=true then _ else _)=_;rw[if_pos (by simp;exact Or.inr (Ow (Cq h)))];rfl
  obtain⟨m',U,O⟩:=Aao (m:={code:=C2,text:=T,lim:=T.size,start:=s,pc:=5,pos:=s,handed:=s,marks:= #[],seen:=({}:De).add 14}) rfl rfl
  exact exi2 none m' ⟨(by rw[W];exact U.le (Br _ _)),fun i u B b hq=>Vh h u hq.2.1,O⟩
end
section
set_option autoImplicit true
open PySem.Sre
noncomputable def C3:Array Nat:= #[14,9,4,1,2,16,10,16,13,0,7,7,16,13,16,10,15,18,5,16,10,15,13,11,16,13,5,5,0,16,10,1,15,2,0,1]
noncomputable def q3 (T:Array Nat)(a b:Nat):Prop:=a<T.size/\((T.getD a 0=13/\(a+1<T.size/\T.getD (a+1) 0=10)/\b=a+2)\/(T.getD a 0=10/\b=a+1)\/(T.getD a 0=13/\¬(a+1<T.size/\T.getD (a+1) 0=10)/\b=a+1))
theorem Bcj (c:Nat)(sn:De):∃sn',inSet C3 c C3.size 5 true sn=.ok (c==10||c==13,sn'):=by
 by_cases U:c=10
 ·subst U;exact⟨_,rfl⟩
 ·by_cases O:c=13
  ·subst O;exact⟨_,rfl⟩
  ·refine⟨((sn.add 16).add 16).add 0,?_⟩;have W:(c==10)=false:=beq_eq_false_iff_ne.mpr U;have D:(c==13)=false:=beq_eq_false_iff_ne.mpr O;show(if(c==10)=true then _ else(if(c==13)=true then _ else _))=_;rw[W,D];rfl
noncomputable def D3 (T:Array Nat)(s:Nat)(first:Bool)(sn:De):M:=
 {code:=C3,text:=T,lim:=T.size,start:=s,lastStart:=T.size,pc:=10,pos:=s,handed:=s,outermost:=first,marks:= #[],seen:=sn}
noncomputable def B3 (T:Array Nat)(s:Nat)(first:Bool)(sn:De):M:=
 {D3 T s first sn with frames:=[{wait:=.nextStart,pc:=10,pos:=s,outermost:=first}],weight:=1}
theorem A9p (m:M)(f s:Nat)(sn:De):M.admitted m (f+1) s sn=if s≥m.lim then .ok (none,sn) else
  match inSet m.code (m.text.getD s 0) m.code.size 5 true sn with
  | .ok (true,sn)=>.ok (some s,sn)
  | .ok (false,sn)=>M.admitted m f (s+1) sn
  | .error why=>.error why:=rfl
theorem Bb1 (T:Array Nat)(m:M)(z:m.code=C3/\m.text=T/\m.lim=T.size):∀(d s:Nat) (sn:De),T.size+1-s=d->∃r sn',M.admitted m d s sn=.ok (r,sn')/\
  match r with
  |some a=>s<=a/\a<T.size/\(T.getD a 0=10\/T.getD a 0=13)/\∀i,s<=i->i<a->¬(T.getD i 0=10\/T.getD i 0=13)
  |none=>∀i,s<=i->i<T.size->¬(T.getD i 0=10\/T.getD i 0=13):=by
 intro d;induction d with
 |zero=>intro s sn hd;exact exi2 none _ ⟨rfl,fun i U O=>Vh (C0 (N9 (A5l hd))) U O⟩
 |succ d J=>
  intro s sn hd;rw[A9p];by_cases h:s≥m.lim
  ·rw[if_pos h];exact exi2 none _ ⟨rfl,fun i U O=>Vh (C0 (z.2.2▸h)) U O⟩
  ·rw[if_neg h];obtain⟨sn',e⟩:=Bcj (T.getD s 0) sn;rw[z.1,z.2.1,e];by_cases q:T.getD s 0=10\/T.getD s 0=13
   ·have:(T.getD s 0==10||T.getD s 0==13)=true:=by simpa using q
    rw[this];exact exi2 (some s) sn' ⟨rfl,At _,z.2.2▸Jl h,q,fun i U O=>absurd O (C0 U)⟩
   ·have:(T.getD s 0==10||T.getD s 0==13)=false:=by simpa using q
    rw[this];refine Aa fun X=>?_;refine exe2 (J (s+1) sn' (Wp hd)) fun r b w=>?_;obtain⟨D,O⟩:=w;refine X ?_;refine exi2 r b ⟨D,?_⟩;cases r with
    |none=>exact fun i u B=>if e:i=s then e▸q else O i (Vi u e) B
    |some a=>exact⟨by have:=O.1;exact Bm this,O.2.1,O.2.2.1,fun i u B=>if e:i=s then e▸q else O.2.2.2 i (Vi u e) B⟩
noncomputable abbrev br3 (first:Bool)(s alt:Nat):Q8:={wait:=.nextBranch,pc:=alt,pos:=s,outermost:=first}
noncomputable abbrev st3 (first:Bool)(s:Nat):Q8:={wait:=.nextStart,pc:=10,pos:=s,outermost:=first}
theorem A5z {T:Array Nat}{s:Nat}{first:Bool}{sn:De}{b alt hd:Nat}:∃m',Rb 4 {D3 T s first sn with pc:=35,pos:=b,handed:=hd,frames:=[br3 first s alt,st3 first s],weight:=2} m'/\M8 m' (some (s,b)):=by
 refine⟨_,Rb.step (ma:={D3 T s first (sn.add 1) with pc:=35,pos:=b,handed:=b,answer:=some true,frames:=[br3 first s alt,st3 first s],weight:=2}) ?_ (Rb.step (Qk rfl rfl rfl) (Rb.step (Qk rfl rfl rfl) (Rb.step (Py (y:=true) rfl rfl rfl) (Rb.refl (b:=0))))),⟨rfl,rfl,rfl⟩⟩;rw[F4 rfl rfl (show 35<36 by decide),Vq rfl rfl (by show(first&&(false&&_))=false;simp)];rfl
theorem A5m (T:Array Nat)(s:Nat)(first:Bool)(sn:De)(l:s<T.size)(L:T.getD s 0=10\/T.getD s 0=13):∃b m',Rb 20 (B3 T s first sn) m'/\q3 T s b/\M8 m' (some (s,b)):=by
 have W:(B3 T s first sn).step={D3 T s first (sn.add 7) with pc:=12,frames:=[br3 first s 11,st3 first s],weight:=2}:=by
  rw[F4 rfl rfl (show 10<36 by decide),Arh rfl rfl];exact Vg rfl (show 1+1+0<=16777216 by decide)
 by_cases a:T.getD s 0=13
 ·have D:({D3 T s first (sn.add 7) with pc:=12,frames:=[br3 first s 11,st3 first s],weight:=2}:M).step={D3 T s first ((sn.add 7).add 16) with pc:=14,pos:=s+1,frames:=[br3 first s 11,st3 first s],weight:=2}:=by
   rw[F4 rfl rfl (show 12<36 by decide),Pl rfl,if_pos ⟨l,a⟩];rfl
  by_cases c:s+1<T.size/\T.getD (s+1) 0=10
  ·have N:({D3 T s first ((sn.add 7).add 16) with pc:=14,pos:=s+1,frames:=[br3 first s 11,st3 first s],weight:=2}:M).step={D3 T s first (((sn.add 7).add 16).add 16) with pc:=16,pos:=s+2,frames:=[br3 first s 11,st3 first s],weight:=2}:=by
    rw[F4 rfl rfl (show 14<36 by decide),Pl rfl,if_pos ⟨c.1,c.2⟩];rfl
   have e:({D3 T s first (((sn.add 7).add 16).add 16) with pc:=16,pos:=s+2,frames:=[br3 first s 11,st3 first s],weight:=2}:M).step={D3 T s first ((((sn.add 7).add 16).add 16).add 15) with pc:=35,pos:=s+2,frames:=[br3 first s 11,st3 first s],weight:=2}:=by
    rfl
   refine Aa fun P=>?_;obtain⟨m',U,O⟩:=A5z (T:=T) (s:=s) (first:=first) (sn:=((((sn.add 7).add 16).add 16).add 15)) (b:=s+2) (alt:=11) (hd:=s);exact P ⟨s+2,m',(Rb.step W (Rb.step D (Rb.step N (Rb.step e U)))).le (by decide),⟨l,.inl ⟨a,c,rfl⟩⟩,O⟩
  ·have N:({D3 T s first ((sn.add 7).add 16) with pc:=14,pos:=s+1,frames:=[br3 first s 11,st3 first s],weight:=2}:M).step={D3 T s first (((sn.add 7).add 16).add 16) with pc:=14,pos:=s+1,answer:=some false,frames:=[br3 first s 11,st3 first s],weight:=2}:=by
    rw[F4 rfl rfl (show 14<36 by decide),Pl rfl,if_neg (by exact c)];rfl
   have e:({D3 T s first (((sn.add 7).add 16).add 16) with pc:=14,pos:=s+1,answer:=some false,frames:=[br3 first s 11,st3 first s],weight:=2}:M).step={D3 T s first (((sn.add 7).add 16).add 16) with pc:=19,frames:=[br3 first s 18,st3 first s],weight:=2}:=by
    exact Vg (m:={D3 T s first (((sn.add 7).add 16).add 16) with frames:=[st3 first s],weight:=1,pc:=11}) (alt:=18) (kept:={lastmark:= -1,lastindex:= -1}) rfl (show 1+1+0<=16777216 by decide)
   have r:({D3 T s first (((sn.add 7).add 16).add 16) with pc:=19,frames:=[br3 first s 18,st3 first s],weight:=2}:M).step={D3 T s first ((((sn.add 7).add 16).add 16).add 16) with pc:=19,answer:=some false,frames:=[br3 first s 18,st3 first s],weight:=2}:=by
    rw[F4 rfl rfl (show 19<36 by decide),Pl rfl,if_neg (fun h=>by have h':T.getD s 0=10:=h.2;omega)];rfl
   have d:({D3 T s first ((((sn.add 7).add 16).add 16).add 16) with pc:=19,answer:=some false,frames:=[br3 first s 18,st3 first s],weight:=2}:M).step={D3 T s first ((((sn.add 7).add 16).add 16).add 16) with pc:=24,frames:=[br3 first s 23,st3 first s],weight:=2}:=by
    exact Vg (m:={D3 T s first ((((sn.add 7).add 16).add 16).add 16) with frames:=[st3 first s],weight:=1,pc:=18}) (alt:=23) (kept:={lastmark:= -1,lastindex:= -1}) rfl (show 1+1+0<=16777216 by decide)
   have k:({D3 T s first ((((sn.add 7).add 16).add 16).add 16) with pc:=24,frames:=[br3 first s 23,st3 first s],weight:=2}:M).step={D3 T s first (((((sn.add 7).add 16).add 16).add 16).add 16) with pc:=26,pos:=s+1,frames:=[br3 first s 23,st3 first s],weight:=2}:=by
    rw[F4 rfl rfl (show 24<36 by decide),Pl rfl,if_pos ⟨l,a⟩];rfl
   generalize f:(((((sn.add 7).add 16).add 16).add 16).add 16)=sn7 at k;have B:({D3 T s first sn7 with pc:=26,pos:=s+1,frames:=[br3 first s 23,st3 first s],weight:=2}:M).step={D3 T s first (sn7.add 5) with pc:=29,pos:=s+1,handed:=s+1,outermost:=false,frames:=[{wait:=.lookNot,pc:=26,pos:=s+1,outermost:=first},br3 first s 23,st3 first s],weight:=3}:=by
    rfl
   have v:({D3 T s first (sn7.add 5) with pc:=29,pos:=s+1,handed:=s+1,outermost:=false,frames:=[{wait:=.lookNot,pc:=26,pos:=s+1,outermost:=first},br3 first s 23,st3 first s],weight:=3}:M).step={D3 T s first ((sn7.add 5).add 16) with pc:=29,pos:=s+1,handed:=s+1,outermost:=false,answer:=some false,frames:=[{wait:=.lookNot,pc:=26,pos:=s+1,outermost:=first},br3 first s 23,st3 first s],weight:=3}:=by
    rw[F4 rfl rfl (show 29<36 by decide),Pl rfl,if_neg (by exact c)];rfl
   have g:({D3 T s first ((sn7.add 5).add 16) with pc:=29,pos:=s+1,handed:=s+1,outermost:=false,answer:=some false,frames:=[{wait:=.lookNot,pc:=26,pos:=s+1,outermost:=first},br3 first s 23,st3 first s],weight:=3}:M).step={D3 T s first ((sn7.add 5).add 16) with pc:=32,pos:=s+1,handed:=s+1,frames:=[br3 first s 23,st3 first s],weight:=2}:=by
    rfl
   have i:({D3 T s first ((sn7.add 5).add 16) with pc:=32,pos:=s+1,handed:=s+1,frames:=[br3 first s 23,st3 first s],weight:=2}:M).step={D3 T s first (((sn7.add 5).add 16).add 15) with pc:=35,pos:=s+1,handed:=s+1,frames:=[br3 first s 23,st3 first s],weight:=2}:=by
    rfl
   obtain⟨m',U,O⟩:=A5z (T:=T) (s:=s) (first:=first) (sn:=(((sn7.add 5).add 16).add 15)) (b:=s+1) (alt:=23) (hd:=s+1);exact(⟨s+1,m',(Rb.step W (Rb.step D (Rb.step N (Rb.step e (Rb.step r (Rb.step d (Rb.step k (Rb.step B (Rb.step v (Rb.step g (Rb.step i U))))))))))).le (by decide),⟨l,.inr (.inr ⟨a,c,rfl⟩)⟩,O⟩)
 ·have c:T.getD s 0=10:=L.resolve_right a;have D:({D3 T s first (sn.add 7) with pc:=12,frames:=[br3 first s 11,st3 first s],weight:=2}:M).step={D3 T s first ((sn.add 7).add 16) with pc:=12,answer:=some false,frames:=[br3 first s 11,st3 first s],weight:=2}:=by
   rw[F4 rfl rfl (show 12<36 by decide),Pl rfl,if_neg (fun h=>a h.2)];rfl
  have e:({D3 T s first ((sn.add 7).add 16) with pc:=12,answer:=some false,frames:=[br3 first s 11,st3 first s],weight:=2}:M).step={D3 T s first ((sn.add 7).add 16) with pc:=19,frames:=[br3 first s 18,st3 first s],weight:=2}:=by
   exact Vg (m:={D3 T s first ((sn.add 7).add 16) with frames:=[st3 first s],weight:=1,pc:=11}) (alt:=18) (kept:={lastmark:= -1,lastindex:= -1}) rfl (show 1+1+0<=16777216 by decide)
  have r:({D3 T s first ((sn.add 7).add 16) with pc:=19,frames:=[br3 first s 18,st3 first s],weight:=2}:M).step={D3 T s first (((sn.add 7).add 16).add 16) with pc:=21,pos:=s+1,frames:=[br3 first s 18,st3 first s],weight:=2}:=by
   rw[F4 rfl rfl (show 19<36 by decide),Pl rfl,if_pos ⟨l,c⟩];rfl
  have d:({D3 T s first (((sn.add 7).add 16).add 16) with pc:=21,pos:=s+1,frames:=[br3 first s 18,st3 first s],weight:=2}:M).step={D3 T s first ((((sn.add 7).add 16).add 16).add 15) with pc:=35,pos:=s+1,frames:=[br3 first s 18,st3 first s],weight:=2}:=by
   rfl
  obtain⟨m',U,O⟩:=A5z (T:=T) (s:=s) (first:=first) (sn:=((((sn.add 7).add 16).add 16).add 15)) (b:=s+1) (alt:=18) (hd:=s);exact exi2 (s+1) m' ⟨(Rb.step W (Rb.step D (Rb.step e (Rb.step r (Rb.step d U))))).le (by decide),⟨l,.inr (.inl ⟨c,rfl⟩)⟩,O⟩
theorem Aan {T:Array Nat}{i b:Nat}(h:q3 T i b):i<T.size/\(T.getD i 0=10\/T.getD i 0=13):=by
 obtain⟨U,O|O|O⟩:=h
 ·exact⟨U,.inr O.1⟩
 ·exact⟨U,.inl O.1⟩
 ·exact⟨U,.inr O.1⟩
theorem Bcf:Ael C3 0 q3:=by
 intro T s l;by_cases h:s<T.size
 ·let c:M:={code:=C3,text:=T,lim:=T.size,start:=s,lastStart:=T.size,pc:=10,pos:=s,handed:=s,marks:= #[],seen:=({}:De).add 14}
  have e:forSearch C3 T 0 s T.size false=M.attemptFrom c s true:=by
   show(if(decide (s>T.size)||decide (T.size-s<1))=true then _ else _)=_;rw[if_neg (by simp;exact⟨l,(Kr h)⟩)];rfl
  refine Aa fun n=>?_;refine exe2 (Bb1 T c ⟨rfl,rfl,rfl⟩ _ s c.seen rfl) fun r sn' F=>?_;obtain⟨D,O⟩:=F;refine n ?_;rw[e];unfold M.attemptFrom;rw[show M.admitted c (c.lim+1-s) s c.seen=.ok (r,sn') from D];cases r with
  |none=>
   obtain⟨m',C,G⟩:=Aao (m:={c with seen:=sn'}) rfl rfl;exact exi2 none m' ⟨C.le (Br _ _),fun i u B b hq=>O i u (Aan hq).1 (Aan hq).2,G⟩
  |some a=>
   refine Aa fun k=>?_;refine exe2 (A5m T a true sn' O.2.1 O.2.2.1) fun b m' H=>?_;obtain⟨C,G,R⟩:=H;refine k ?_;refine exi2 (some (a,b)) m' ⟨?_,⟨O.1,by have:=O.2.1;exact Ba this,G,fun i u B b hq=>O.2.2.2 i u B (Aan hq).2⟩,R⟩;exact C.le (Br _ _)
 ·have W:forSearch C3 T 0 s T.size false=M.say {code:=C3,text:=T,lim:=T.size,start:=s,pc:=10,pos:=s,handed:=s,marks:= #[],seen:=({}:De).add 14} false:=by
   show(if(decide (s>T.size)||decide (T.size-s<1))=true then _ else _)=_;rw[if_pos (by simp;exact Or.inr (Ow (Cq h)))];rfl
  obtain⟨m',U,O⟩:=Aao (m:={code:=C3,text:=T,lim:=T.size,start:=s,pc:=10,pos:=s,handed:=s,marks:= #[],seen:=({}:De).add 14}) rfl rfl
  exact exi2 none m' ⟨(by rw[W];exact U.le (Br _ _)),fun i u B b hq=>Vh h u hq.1,O⟩
end
section
set_option autoImplicit true
open PySem.Sre
noncomputable def C1:Array Nat:= #[14,4,0,1,4294967295,17,0,7,14,24,10,1,4294967295,13,5,22,48,57,0,1,15,17,15,13,11,9,0,26624,2147483648,0,0,0,0,0,0,15,2,0,17,1,1]
noncomputable def dg (c:Nat):Bool:=decide (48<=c)&&decide (c<=57)
noncomputable def Ah3 (c:Nat):Bool:=c==43||c==45||c==46||c==95
noncomputable def Lo (T:Array Nat):Nat->Nat->Nat
 |_,0=>0
 |p,n+1=>if dg (T.getD p 0)=true then Lo T (p+1) n+1 else 0
theorem A0o (T:Array Nat)(p:Nat):Lo T p 0=0:=rfl
theorem Ub (T:Array Nat)(p n:Nat):Lo T p (n+1)=if dg (T.getD p 0)=true then Lo T (p+1) n+1 else 0:=rfl
theorem Abp (T:Array Nat):∀n p,Lo T p n<=n
 |0,_=>At _
 |n+1,p=>by
  rw[Ub];split
  ·have:=Abp T n (p+1);exact Dt this
  ·exact Br _ _
theorem Ae1 (T:Array Nat):∀n p i,i<Lo T p n->dg (T.getD (p+i) 0)=true
 |0,_,i,h=>by simp[A0o] at h
 |n+1,p,i,h=>by
  rw[Ub] at h;split at h
  ·rename_i hd;cases i with
   |zero=>exact hd
   |succ i=>rw[show p+(i+1)=p+1+i from(Eq.symm (Dg _ _ _))];exact Ae1 T n (p+1) i (Ai (by assumption))
  ·lia
theorem Ae2 (T:Array Nat):∀n p,Lo T p n<n->dg (T.getD (p+Lo T p n) 0)=false
 |0,_,h=>by simp at h
 |n+1,p,h=>by
  rw[Ub] at h |-
  split
  ·rename_i hd;rw[if_pos hd] at h;rw[show p+(Lo T (p+1) n+1)=p+1+Lo T (p+1) n from(Eq.symm (Dg _ _ _))];exact Ae2 T n (p+1) (Ai (by assumption))
  ·rename_i hd;simpa using hd
theorem Bci (c:Nat)(sn:De):∃sn',inSet C1 c C1.size 15 true sn=.ok (dg c,sn'):=by
 by_cases h:dg c=true
 ·refine⟨sn.add 22,?_⟩;show(if dg c=true then _ else _)=_;rw[h];rfl
 ·refine⟨(sn.add 22).add 0,?_⟩;show(if dg c=true then _ else _)=_;rw[if_neg h,Adk _ |>.mp h];rfl
theorem Ag8:∀c:Fin 256,(([0,26624,2147483648,0,0,0,0,0]:List Nat).getD (c.val/32) 0).testBit (c.val%32)=Ah3 c.val:=by decide+kernel
theorem Bb2 {P:Nat->Prop}(I:P 0)(U:P 1)(O:P 2)(C:P 3)(G:P 4)(R:P 5)(r:P 6)(K:P 7):∀k,k<8->P k:=fun k h=>
 A3m (P:=fun k=>k<8->P k) (fun _=>I) (fun _=>U) (fun _=>O) (fun _=>C) (fun _=>G) (fun _=>R) (fun _=>r) (fun _=>K) (fun h=>absurd h (by decide)) (fun h=>absurd h (by decide)) k (Ay h (by decide)) h
theorem A4a (c:Nat)(sn:De):∃sn',inSet C1 c C1.size 25 true sn=.ok (Ah3 c,sn'):=by
 have key:(decide (c<256)&&(C1.getD (25+(1+c/32)) 0).testBit (c%32))=Ah3 c:=by
  by_cases h:c<256
  ·have:=Ag8 ⟨c,h⟩;rw[<-this];simp only[h,decide_true,Fv];have W:c/32<8:=(Fa h);generalize c/32=j at W
   revert j
   exact Bb2 rfl rfl rfl rfl rfl rfl rfl rfl
  ·simp only[h,decide_false,Wb]
   symm;unfold Ah3
   lia
 by_cases h:Ah3 c=true
 ·refine⟨sn.add 9,?_⟩;show(if(decide (c<256)&&(C1.getD (25+(1+c/32)) 0).testBit (c%32))=true then _ else _)=_;rw[key,h];rfl
 ·refine⟨(sn.add 9).add 0,?_⟩;show(if(decide (c<256)&&(C1.getD (25+(1+c/32)) 0).testBit (c%32))=true then _ else _)=_;rw[key,if_neg h,Adk _ |>.mp h];rfl
theorem Ba1 (code text:Array Nat)(i n p f:Nat)(sn:De):Uz code text i (n+1) p f sn=(do
  let (yes,sn)<-accepts code i (text.getD p 0) sn
  if yes then Uz code text i n (p+1) (f+1) sn else pure (f,sn)):=rfl
theorem A7e (T:Array Nat):∀(n p f:Nat) (sn:De),∃sn',Uz C1 T 13 n p f sn=.ok (f+Lo T p n,sn')
 |0,p,f,sn=>⟨sn,rfl⟩
 |n+1,p,f,sn=>by
  obtain⟨sn',e⟩:=Bci (T.getD p 0) sn;rw[Ba1];rw[show accepts C1 13 (T.getD p 0) sn=.ok (dg (T.getD p 0),sn') from e];rw[Ub];cases h:dg (T.getD p 0) with
  |true=>
   obtain⟨b,D⟩:=A7e T n (p+1) (f+1) sn';exact⟨b,by show Uz C1 T 13 n (p+1) (f+1) sn'=_;rw[D];simp;exact Dg _ _ _⟩
  |false=>exact⟨sn',rfl⟩
noncomputable def q1 (T:Array Nat)(a b:Nat):Prop:=a<T.size/\((dg (T.getD a 0)=true/\b=a+Lo T a (T.size-a))\/(dg (T.getD a 0)=false/\Ah3 (T.getD a 0)=true/\b=a+1))
noncomputable def D1 (T:Array Nat)(s:Nat)(first:Bool)(mk:Array (Option Nat))(sn:De):M:=
 {code:=C1,text:=T,lim:=T.size,start:=s,lastStart:=T.size,pc:=5,pos:=s,handed:=s,outermost:=first,marks:=mk,seen:=sn}
noncomputable abbrev st1 (first:Bool)(s:Nat):Q8:={wait:=.nextStart,pc:=5,pos:=s,outermost:=first}
noncomputable abbrev kp1:Bbv:={lastmark:=0}
noncomputable abbrev br1 (first:Bool)(s alt:Nat):Q8:={wait:=.nextBranch,pc:=alt,pos:=s,outermost:=first,kept:=kp1}
noncomputable abbrev gb1 (first:Bool)(p:Nat)(n:Int):Q8:={wait:=.giveBack,pc:=9,pos:=p,outermost:=first,count:=n,kept:=kp1}
noncomputable def B1 (T:Array Nat)(s:Nat)(first:Bool)(mk:Array (Option Nat))(sn:De):M:=
 {D1 T s first mk sn with frames:=[st1 first s],weight:=1}
noncomputable def Agh (m:M)(a b:Nat):Prop:=M8 m (some (a,b))/\m.marks= #[some a,some b]/\m.lastmark=1
theorem A3v {T:Array Nat}{s:Nat}{first:Bool}{x y:Option Nat}{sn:De}:
  N2 2 (B1 T s first #[x,y] sn)={D1 T s first #[some s,y] ((sn.add 17).add 7) with lastmark:=0,pc:=9,frames:=[br1 first s 8,st1 first s],weight:=2}:=by
 have W:(B1 T s first #[x,y] sn).step={D1 T s first #[some s,y] (sn.add 17) with lastmark:=0,pc:=7,frames:=[st1 first s],weight:=1}:=by
  rfl
 show((B1 T s first #[x,y] sn).step).step=_
 exact Vg (m:={D1 T s first #[some s,y] ((sn.add 17).add 7) with lastmark:=0,pc:=7,frames:=[st1 first s],weight:=1}) (alt:=8) (kept:=kp1) rfl (show 1+1+0<=16777216 by decide)
theorem Af9 (m:M)(sn:De)(k:Nat):({m with seen:=sn}:M).word k=m.word k:=rfl
theorem A0u {m:M}{n:Nat}{sn:De}(h:ops[m.word 0]?=some .REPEAT_ONE)(H:m.inner=none)(j:m.pos+m.word 2<=m.lim)
  (a:Uz m.code m.text (m.pc+4) (min (m.word 3) (m.lim-m.pos)) m.pos 0 ((m.seen.add (m.word 0)).add (m.word 4))=.ok (n,sn))(K:¬n<m.word 2)(B:m.weight+1<=16777216):
  m.exec={m with seen:=sn,frames:={wait:=.giveBack,pc:=m.pc,pos:=m.pos+n,outermost:=m.outermost,count:=n,kept:={lastmark:=m.lastmark,lastindex:=m.lastindex}}::m.frames,weight:=m.weight+1,pc:=m.pc+1+m.word 1,pos:=m.pos+n,handed:=m.pos+n}:=by
 unfold M.exec;simp only[h,Af9];refine Oc (if_neg (show ¬((m.word 2:Int)>(m.lim:Int)-(m.pos:Int)) by lia)) ?_;have W:((m.lim:Int)-(m.pos:Int)).toNat=m.lim-m.pos:=(A3r _ _);rw[W];simp only[Ch,if_false];rw[a];refine Oc (if_neg K) ?_;simp only[H];exact Oc (if_neg (show ¬(m.weight+1+0>16777216) from(C0 B))) rfl
theorem Abw {m:M}{sn:De}(h:ops[m.word 0]?=some .REPEAT_ONE)(N:m.word 2=1)
  (a:¬m.pos<m.lim\/Uz m.code m.text (m.pc+4) (min (m.word 3) (m.lim-m.pos)) m.pos 0 ((m.seen.add (m.word 0)).add (m.word 4))=.ok (0,sn)):
  ∃sn',m.exec={m with seen:=sn',answer:=some false}:=by
 unfold M.exec;simp only[h,Af9];by_cases I:m.pos<m.lim
 ·have a:=a.resolve_left (fun h=>h I);refine⟨sn,Oc (if_neg (show ¬((m.word 2:Int)>(m.lim:Int)-(m.pos:Int)) by lia)) ?_⟩;have W:((m.lim:Int)-(m.pos:Int)).toNat=m.lim-m.pos:=(A3r _ _);rw[W];simp only[Ch,if_false];rw[a];exact Oc (if_pos (show 0<m.word 2 from(Aj (Eq.symm N)))) rfl
 ·exact⟨_,Oc (if_pos (show((m.word 2:Int)>(m.lim:Int)-(m.pos:Int)) by lia)) rfl⟩
theorem Ap5 {T:Array Nat}{s:Nat}{first:Bool}{y:Option Nat}{sn:De}{b hd pc w:Nat}{fr:List Q8}(h:pc=20\/pc=35)
  (u:T.size≥b):
  N2 3 {D1 T s first #[some s,y] sn with lastmark:=0,pc:=pc,pos:=b,handed:=hd,frames:=fr,weight:=w}={D1 T s first #[some s,some b] (((sn.add 15).add 17).add 1) with lastmark:=1,lastindex:=1,pc:=40,pos:=b,handed:=b,answer:=some true,frames:=fr,weight:=w}:=by
 have W:({D1 T s first #[some s,y] sn with lastmark:=0,pc:=pc,pos:=b,handed:=hd,frames:=fr,weight:=w}:M).step={D1 T s first #[some s,y] (sn.add 15) with lastmark:=0,pc:=38,pos:=b,handed:=hd,frames:=fr,weight:=w}:=by
  rcases h with rfl|rfl
  ·rw[F4 rfl rfl (show 20<41 by decide),Apb rfl];rfl
  ·rw[F4 rfl rfl (show 35<41 by decide),Apb rfl];rfl
 have D:({D1 T s first #[some s,y] (sn.add 15) with lastmark:=0,pc:=38,pos:=b,handed:=hd,frames:=fr,weight:=w}:M).step={D1 T s first #[some s,some b] ((sn.add 15).add 17) with lastmark:=1,lastindex:=1,pc:=40,pos:=b,handed:=hd,frames:=fr,weight:=w}:=by
  show M.mark _ 1=_;rfl
 have N:({D1 T s first #[some s,some b] ((sn.add 15).add 17) with lastmark:=1,lastindex:=1,pc:=40,pos:=b,handed:=hd,frames:=fr,weight:=w}:M).step={D1 T s first #[some s,some b] (((sn.add 15).add 17).add 1) with lastmark:=1,lastindex:=1,pc:=40,pos:=b,handed:=b,answer:=some true,frames:=fr,weight:=w}:=by
  rw[F4 rfl rfl (show 40<41 by decide),Vq rfl rfl (by show(first&&(false&&_))=false;simp)];rfl
 show M.step (M.step (M.step _))=_;rw[W,D,N]
theorem A63 {T:Array Nat}{s:Nat}{first:Bool}{x y:Option Nat}{sn:De}{b:Nat}(hz:T.size<=16777216)(hq:q1 T s b):∃m',Rb 20 (B1 T s first #[x,y] sn) m'/\Agh m' s b:=by
 obtain⟨l,hq⟩:=hq;have z:Rb 2 (B1 T s first #[x,y] sn) _:=⟨2,At _,A3v⟩
 obtain⟨f,W⟩:=A7e T (min 4294967295 (T.size-s)) s 0 ((((sn.add 17).add 7).add 24).add 13);rw[Jm (Ab (Ab (Dy _ _) hz) (by decide)),Cg] at W;rcases hq with⟨hd,rfl⟩|⟨hd,hsp,rfl⟩
 ·have K:1<=Lo T s (T.size-s):=by
   rw[show T.size-s=(T.size-s-1)+1 from(Tj l)];rw[Ub];rw[if_pos hd];exact Br _ _
  have o:=Abp T (T.size-s) s;generalize hk:Lo T s (T.size-s)=k at *;have N:({D1 T s first #[some s,y] ((sn.add 17).add 7) with lastmark:=0,pc:=9,frames:=[br1 first s 8,st1 first s],weight:=2}:M).step={D1 T s first #[some s,y] f with lastmark:=0,pc:=20,pos:=s+k,handed:=s+k,frames:=[gb1 first (s+k) k,br1 first s 8,st1 first s],weight:=3}:=by
   rw[F4 rfl rfl (show 9<41 by decide)];rw[A0u (n:=k) (sn:=f) rfl rfl (by show s+1<=T.size;exact Ft l) (by show Uz C1 T 13 (min 4294967295 (T.size-s)) s 0 _=_;rw[Jm (Ab (Ab (Dy _ _) hz) (by decide))];exact W) (by show ¬k<1;exact C0 K) (show 2+1<=16777216 by decide)];rfl
  refine⟨_,(z.trans (Rb.step N (Rb.trans ⟨3,At _,Ap5 (hd:=s+k) (.inl rfl) (Ot (Ba l) o)⟩ (Rb.step (Qk rfl rfl rfl) (Rb.step (Qk rfl rfl rfl) (Rb.step (Qk rfl rfl rfl) (Rb.step (Py (y:=true) rfl rfl rfl) (Rb.refl (b:=0))))))))).le (Br _ _),⟨rfl,rfl,rfl⟩,rfl,rfl⟩
 ·obtain⟨a,N⟩:∃a,({D1 T s first #[some s,y] ((sn.add 17).add 7) with lastmark:=0,pc:=9,frames:=[br1 first s 8,st1 first s],weight:=2}:M).step={D1 T s first #[some s,y] a with lastmark:=0,pc:=9,answer:=some false,frames:=[br1 first s 8,st1 first s],weight:=2}:=by
   have I:Lo T s (T.size-s)=0:=by
    rw[show T.size-s=(T.size-s-1)+1 from(Tj l)];exact if_neg (by rw[hd];simp)
   rw[I] at W;obtain⟨sn',e⟩:=Abw (m:={D1 T s first #[some s,y] ((sn.add 17).add 7) with lastmark:=0,pc:=9,frames:=[br1 first s 8,st1 first s],weight:=2}) (sn:=f) rfl rfl (.inr (by show Uz C1 T 13 (min 4294967295 (T.size-s)) s 0 _=_;rw[Jm (Ab (Ab (Dy _ _) hz) (by decide))];exact W))
   exact⟨sn',e⟩
  have O:({D1 T s first #[some s,y] a with lastmark:=0,pc:=9,answer:=some false,frames:=[br1 first s 8,st1 first s],weight:=2}:M).step={D1 T s first #[some s,y] a with lastmark:=0,pc:=23,frames:=[br1 first s 22,st1 first s],weight:=2}:=by
   exact Vg (m:={D1 T s first #[some s,y] a with lastmark:=0,frames:=[st1 first s],weight:=1,pc:=8}) (alt:=22) (kept:=kp1) rfl (show 1+1+0<=16777216 by decide)
  obtain⟨c,q⟩:=A4a (T.getD s 0) (a.add 13);have r:({D1 T s first #[some s,y] a with lastmark:=0,pc:=23,frames:=[br1 first s 22,st1 first s],weight:=2}:M).step={D1 T s first #[some s,y] c with lastmark:=0,pc:=35,pos:=s+1,frames:=[br1 first s 22,st1 first s],weight:=2}:=by
   rw[F4 rfl rfl (show 23<41 by decide),A3z (b:=true) (sn:=c) rfl l (by rw[hsp] at q;exact q)];rfl
  refine⟨_,(z.trans (Rb.step N (Rb.step O (Rb.step r (Rb.trans ⟨3,At _,Ap5 (hd:=s) (.inr rfl) (by assumption)⟩ (Rb.step (Qk rfl rfl rfl) (Rb.step (Qk rfl rfl rfl) (Rb.step (Py (y:=true) rfl rfl rfl) (Rb.refl (b:=0)))))))))).le (by decide),⟨rfl,rfl,rfl⟩,rfl,rfl⟩
theorem Ap4 {T:Array Nat}{s:Nat}{first:Bool}{x y:Option Nat}{sn:De}(hz:T.size<=16777216)(hq:∀b,¬q1 T s b)(l:s<=T.size):
  ∃sn',Rb 9 (B1 T s first #[x,y] sn) {D1 T s first #[some s,y] sn' with lastmark:=0,pc:=22,answer:=some false,frames:=[st1 first s],weight:=1}:=by
 have z:Rb 2 (B1 T s first #[x,y] sn) _:=⟨2,At _,A3v⟩
 have g:s<T.size->dg (T.getD s 0)=false:=fun h=>by
  cases hd:dg (T.getD s 0) with
  |false=>rfl
  |true=>exact absurd ⟨h,.inl ⟨hd,rfl⟩⟩ (hq _)
 have i:s<T.size->Ah3 (T.getD s 0)=false:=fun h=>by
  cases hd:Ah3 (T.getD s 0) with
  |false=>rfl
  |true=>exact absurd ⟨h,.inr ⟨g h,hd,rfl⟩⟩ (hq _)
 obtain⟨f,W⟩:=A7e T (min 4294967295 (T.size-s)) s 0 ((((sn.add 17).add 7).add 24).add 13);rw[Jm (Ab (Ab (Dy _ _) hz) (by decide)),Cg] at W;obtain⟨a,N⟩:∃a,({D1 T s first #[some s,y] ((sn.add 17).add 7) with lastmark:=0,pc:=9,frames:=[br1 first s 8,st1 first s],weight:=2}:M).step={D1 T s first #[some s,y] a with lastmark:=0,pc:=9,answer:=some false,frames:=[br1 first s 8,st1 first s],weight:=2}:=by
  have U:¬s<T.size\/Uz C1 T 13 (min 4294967295 (T.size-s)) s 0 ((((sn.add 17).add 7).add 24).add 13)=.ok (0,f):=by
   by_cases h:s<T.size
   ·right;have I:Lo T s (T.size-s)=0:=by
     rw[show T.size-s=(T.size-s-1)+1 from(Tj h)];exact if_neg (by rw[g h];simp)
    rw[I] at W;rw[Jm (Ab (Ab (Dy _ _) hz) (by decide))];exact W
   ·exact .inl h
  obtain⟨sn',e⟩:=Abw (m:={D1 T s first #[some s,y] ((sn.add 17).add 7) with lastmark:=0,pc:=9,frames:=[br1 first s 8,st1 first s],weight:=2}) (sn:=f) rfl rfl U
  exact⟨sn',e⟩
 have O:({D1 T s first #[some s,y] a with lastmark:=0,pc:=9,answer:=some false,frames:=[br1 first s 8,st1 first s],weight:=2}:M).step={D1 T s first #[some s,y] a with lastmark:=0,pc:=23,frames:=[br1 first s 22,st1 first s],weight:=2}:=by
  exact Vg (m:={D1 T s first #[some s,y] a with lastmark:=0,frames:=[st1 first s],weight:=1,pc:=8}) (alt:=22) (kept:=kp1) rfl (show 1+1+0<=16777216 by decide)
 obtain⟨c,r⟩:∃c,({D1 T s first #[some s,y] a with lastmark:=0,pc:=23,frames:=[br1 first s 22,st1 first s],weight:=2}:M).step={D1 T s first #[some s,y] c with lastmark:=0,pc:=23,answer:=some false,frames:=[br1 first s 22,st1 first s],weight:=2}:=by
  rw[F4 rfl rfl (show 23<41 by decide)];by_cases h:s<T.size
  ·obtain⟨c,q⟩:=A4a (T.getD s 0) (a.add 13);rw[i h] at q;exact⟨c,by rw[A3z (b:=false) (sn:=c) rfl h q];rfl⟩
  ·exact⟨a.add 13,by rw[Ari rfl h];rfl⟩
 have d:({D1 T s first #[some s,y] c with lastmark:=0,pc:=23,answer:=some false,frames:=[br1 first s 22,st1 first s],weight:=2}:M).step={D1 T s first #[some s,y] c with lastmark:=0,pc:=22,answer:=some false,frames:=[st1 first s],weight:=1}:=by
  exact A49 (m:={D1 T s first #[some s,y] c with lastmark:=0,frames:=[st1 first s],weight:=1,pc:=22}) (alt:=37) (kept:=kp1) rfl
 exact⟨c,(z.trans (Rb.step N (Rb.step O (Rb.step r (Rb.step d (Rb.refl (b:=0))))))).le (Br _ _)⟩
theorem Aru (T:Array Nat)(hz:T.size<=16777216):∀(d s:Nat) (first:Bool) (x y:Option Nat) (sn:De),T.size-s=d->s<=T.size->
  ∃r m',Rb (20*(d+1)) (B1 T s first #[x,y] sn) m'/\Pb (q1 T) s T.size r/\M8 m' r/\∀a b,r=some (a,b)->Agh m' a b:=by
 intro d;induction d with
 |zero=>
  intro s first x y sn hd l
  have hq:∀b,¬q1 T s b:=fun b h=>by have:=h.1;exact Aup this hd
  obtain⟨sn',U⟩:=Ap4 (first:=first) (x:=x) (y:=y) (sn:=sn) hz hq l;have e:({D1 T s first #[some s,y] sn' with lastmark:=0,pc:=22,answer:=some false,frames:=[st1 first s],weight:=1}:M).step={D1 T s first #[some s,y] sn' with lastmark:=0,answer:=some false}:=by
   show(if s<T.size then _ else _)=_;rw[if_neg (C0 (Dm hd))];rfl
  exact exi2 none _ ⟨(U.trans (Rb.step e (Rb.step (Py (y:=false) rfl rfl rfl) (Rb.refl (b:=0))))).le (by decide),fun i u B b h=>Vh (C0 (Dm hd)) u h.1,rfl,fun a b h=>nomatch h⟩
 |succ d J=>
  intro s first x y sn hd l
  by_cases hq:∃b,q1 T s b
  ·obtain⟨b,hq⟩:=hq;obtain⟨m',U,O⟩:=A63 (first:=first) (x:=x) (y:=y) (sn:=sn) hz hq;exact(⟨some (s,b),m',U.le (Br _ _),⟨At _,l,hq,fun i u B=>absurd B (C0 u)⟩,O.1,fun a b h=>by cases h;exact O⟩)
  ·have f:∀b,¬q1 T s b:=fun b h=>hq ⟨b,h⟩;refine Aa fun z=>?_;obtain⟨sn',U⟩:=Ap4 (first:=first) (x:=x) (y:=y) (sn:=sn) hz f l;have e:({D1 T s first #[some s,y] sn' with lastmark:=0,pc:=22,answer:=some false,frames:=[st1 first s],weight:=1}:M).step=B1 T (s+1) false #[some s,y] sn':=by
    show(if s<T.size then _ else _)=_;rw[if_pos (Qd hd)];exact Ag6 (m:={D1 T s first #[some s,y] sn' with lastmark:=0}) (show 0+1<=16777216 by decide)
   refine exe2 (J (s+1) false (some s) y sn' (Wp hd) (Qd hd)) fun r m' c=>?_;obtain⟨u,B,Y,H⟩:=c;refine z ?_;refine exi2 r m' ⟨(U.trans (Rb.step e u)).le (by lia),?_,Y,H⟩;cases r with
   |none=>exact fun i P j b=>if e:i=s then e▸f b else B i (Vi P e) j b
   |some p=>exact⟨by have:=B.1;exact Bm this,B.2.1,B.2.2.1,fun i P j b=>if e:i=s then e▸f b else B.2.2.2 i (Vi P e) j b⟩
theorem Bcd (T:Array Nat)(hz:T.size<=16777216)(s:Nat)(l:s<=T.size):∃r m',Rb (20*(T.size+2)) (forSearch C1 T 1 s T.size false) m'/\Pb (q1 T) s T.size r/\M8 m' r/\∀a b,r=some (a,b)->Agh m' a b:=by
 by_cases h:s<T.size
 ·have e:forSearch C1 T 1 s T.size false=B1 T s true #[none,none] (({}:De).add 14):=by
   show(if(decide (s>T.size)||decide (T.size-s<1))=true then _ else _)=_;rw[if_neg (by simp;exact⟨l,(Kr h)⟩)];exact Ag6 (m:={code:=C1,text:=T,lim:=T.size,start:=s,lastStart:=T.size,pc:=5,pos:=s,handed:=s,marks:= #[none,none],seen:=({}:De).add 14}) (show 0+1<=16777216 by decide)
  refine exe2 (Aru T hz _ s true none none (({}:De).add 14) rfl l) fun r m' o=>?_;obtain⟨U,O⟩:=o;exact exi2 r m' ⟨by rw[e];exact U.le (Au 20 (A3 (El (Dy _ _)))),O⟩
 ·have W:forSearch C1 T 1 s T.size false=M.say {code:=C1,text:=T,lim:=T.size,start:=s,pc:=5,pos:=s,handed:=s,marks:= #[none,none],seen:=({}:De).add 14} false:=by
   show(if(decide (s>T.size)||decide (T.size-s<1))=true then _ else _)=_;rw[if_pos (by simp;exact Or.inr (Ow (Cq h)))];rfl
  obtain⟨m',U,O⟩:=Aao (m:={code:=C1,text:=T,lim:=T.size,start:=s,pc:=5,pos:=s,handed:=s,marks:= #[none,none],seen:=({}:De).add 14}) rfl rfl
  exact exi2 none m' ⟨(by rw[W];exact U.le (Br _ _)),fun i u B b hq=>Vh h u hq.1,O,fun a b h=>by cases h⟩
end
section
open PySem.Builtin PySem.Builtin.Str PySem.StrLaws
noncomputable def rpk (y z:List Nat):Nat->List Nat->List Nat
 |_,[]=>[]
 |k+1,_::r=>rpk y z k r
 |0,c::r=>if((c::r).take y.length==y)=true then z++rpk y z (y.length-1) r else c::rpk y z 0 r
theorem Akt (y z:List Nat)(c:Nat)(r:List Nat):rpk y z 0 (c::r)=if((c::r).take y.length==y)=true then z++rpk y z (y.length-1) r else c::rpk y z 0 r:=rfl
noncomputable def Ad2 (x y:Str):Nat->Nat->Nat->List Nat
 |0,_,_=>[]
 |m+1,i,n=>if(n<=i/\i+y.length<=x.length)/\subAt x y i=true then i::Ad2 x y m (i+1) (i+y.length) else Ad2 x y m (i+1) n
theorem A61 (x y:Str)(i n:Nat):Ad2 x y 0 i n=[]:=rfl
theorem Anf (x y:Str)(m i free:Nat):Ad2 x y (m+1) i free=if(free<=i/\i+y.length<=x.length)/\subAt x y i=true then i::Ad2 x y m (i+1) (i+y.length) else Ad2 x y m (i+1) free:=rfl
theorem Acl (x y:Str)(l:Nat):∀(m i n:Nat) (f:Array Nat),f.size+m<=l->
  (Adl (List.range' i m) (f,n) (occBody x y x.length l)).run.fst.toList=f.toList++Ad2 x y m i n
 |0,i,n,f,_=>by simp[A61]
 |m+1,i,n,f,h=>by
  rw[List.range'_succ,Iw];unfold occBody;rw[Anf];by_cases L:(n<=i/\i+y.length<=x.length)/\subAt x y i=true
  ·rw[if_pos (show(((f,n).fst.size<l/\(f,n).snd<=i)/\i+y.length<=x.length)/\subAt x y i=true from⟨⟨⟨by show f.size<l;exact Abb h,L.1.1⟩,L.1.2⟩,L.2⟩),if_pos L];have J:=Acl x y l m (i+1) (i+y.length) (f.push i) (by rw[Array.size_push];exact Aba h);rw[Ay1,Az] at J;exact J
  ·rw[if_neg (fun q=>L ⟨⟨q.1.1.2,q.1.2⟩,q.2⟩),if_neg L];exact Acl x y l m (i+1) n f (N9 h)
noncomputable def gJ (x z:Str)(w a:Nat)(c:List Nat):List Nat:=(I7 z (partsFrom x w a c)).cps.toList
theorem Akj (x:Str)(w a:Nat):partsFrom x w a []=[strSub x a x.length]:=rfl
theorem Avn (x z:Str)(w a:Nat):gJ x z w a []=x.cps.toList.drop a:=by
 unfold gJ;rw[Akj];show(strSub x a x.length).cps.toList=_;rw[strSub_toList];apply Cj;rw[D0];show x.cps.toList.length-a<=x.length-a;unfold R1;simp
theorem A0z (x z:Str)(w a c:Nat)(r:List Nat):gJ x z w a (c::r)=(x.cps.toList.drop a).take (c-a)++z.cps.toList++gJ x z w (c+w) r:=by
 unfold gJ;show(I7 z (strSub x a c::partsFrom x w (c+w) r)).cps.toList=_;have:∃p ps,partsFrom x w (c+w) r=p::ps:=by cases r with
  |nil=>exact exi2 _ _ rfl
  |cons d r=>exact exi2 _ _ rfl
 refine exe2 this fun p ps e=>?_;rw[e];show(strSub x a c++z++I7 z (p::ps)).cps.toList=_;rw[B4,B4,Be,Be,strSub_toList]
theorem Ab0 (x y z:Str)(B:1<=y.length):∀(m i n:Nat),i+m=x.length+1->
  (n<=i->gJ x z y.length n (Ad2 x y m i n)=(x.cps.toList.drop n).take (i-n)++rpk y.cps.toList z.cps.toList 0 (x.cps.toList.drop i))/\
  (i<n->n<=x.length->gJ x z y.length n (Ad2 x y m i n)=rpk y.cps.toList z.cps.toList (n-i) (x.cps.toList.drop i))
 |0,i,n,h=>by
  have a:x.cps.toList.length=x.length:=by unfold R1;simp
  have o:x.length<=i:=Ab (J1 _) (Aj h.symm);have hd:x.cps.toList.drop i=[]:=Jz (Ab (Aj a) o);constructor
  ·intro u;show gJ x z y.length n []=_;rw[Avn,hd];show _=_++([]:List Nat);rw[Ct,Cj (by rw[D0,a];exact Go o _)]
  ·intro U O;exact absurd (Ah o U) (C0 O)
 |m+1,i,n,h=>by
  have a:x.cps.toList.length=x.length:=by unfold R1;simp
  have d:y.cps.toList.length=y.length:=by unfold R1;simp
  have h':i+1+m=x.length+1:=(Dg i 1 m).trans h;constructor
  ·intro u;rw[Anf];by_cases L:(n<=i/\i+y.length<=x.length)/\subAt x y i=true
   ·rw[if_pos L,A0z];have H:i<x.cps.toList.length:=by rw[a];exact Ay (T8 B) L.1.2
    have l:=L.2;rw[subAt_eq] at l;rw[Cc H] at l |-
    rw[Az]
    congr 1
    rw[Akt];rw[d,if_pos l]
    congr 1
    by_cases b:y.length=1
    ·rw[(Ab0 x y z B m (i+1) (i+y.length) h').1 (Aj (congrArg (i+ ·) b)),b];simp
    ·rw[(Ab0 x y z B m (i+1) (i+y.length) h').2 (Lr (Ea B (Vd b)) i) L.1.2]
     congr 1;exact Nat.add_sub_add_left ..
   ·rw[if_neg L];rw[((Ab0 x y z B m (i+1) n h').1 (El u))];by_cases H:i<x.cps.toList.length
    ·have l:¬(((x.cps.toList.drop i).take y.length==y.cps.toList)=true):=fun l=>by
      refine L ⟨⟨u,?_⟩,by rw[subAt_eq];exact l⟩;have:=congrArg Ati (Ew l);rw[Ef,D0,d,a] at this;rw[a] at H;exact Ot (Ba H) (Ab (Aj this.symm) (Ad9 _ _))
     rw[Cc H] at l;rw[Cc H];show _=_++rpk y.cps.toList z.cps.toList 0 (x.cps.toList[i]::x.cps.toList.drop (i+1));conv=>rhs;rw[Akt]
     rw[d,if_neg l];rw[Nat.succ_sub u,List.take_add_one,Zv,C8 u,Bx H];simp
    ·have o:=Cq H;have w:x.cps.toList.drop i=[]:=Jz o;have c:x.cps.toList.drop (i+1)=[]:=Jz (El o);rw[w,c]
     congr 1
     rw[Cj (by rw[D0];exact Go (El o) _),Cj (by rw[D0];exact Go o _)]
  ·intro U O;rw[Anf];rw[if_neg (fun q=>absurd q.1.1 (Aea U))];have J:=Ab0 x y z B m (i+1) n h';have H:i<x.cps.toList.length:=by rw[a];exact Ay U O
   rw[Cc H];rw[show n-i=(n-(i+1))+1 from(Eu (Oa U)).symm];show _=rpk y.cps.toList z.cps.toList (n-(i+1)) (x.cps.toList.drop (i+1));by_cases p:i+1=n
   ·rw[J.1 (Aj p.symm),<-p];simp
   ·rw[J.2 (Ea U p) O]
theorem V1 (x y z:Str)(B:1<=y.length):(J3 x y z).cps.toList=rpk y.cps.toList z.cps.toList 0 x.cps.toList:=by
 have key:occurrences x y 0 x.length (x.length+1)=Ad2 x y (x.length+1) 0 0:=by
  rw[occ_eq];have:=Acl x y (x.length+1) (x.length+1) 0 0 #[] (by simp)
  simpa using this
 have h:=(Ab0 x y z B (x.length+1) 0 0 (Cu _ _)).1 (At _);rw[<-key] at h;have T:(y.length==0)=false:=by simp;exact Ga (Ai (Dt B))
 unfold J3;rw[T,Wb,Zb];cases p:(occurrences x y 0 x.length (x.length+1)).isEmpty with
 |false=>
  rw[if_neg Q6,glued_eq_join,partsBetween_eq];exact h.trans (by simp)
 |true=>
  rw[if_pos rfl];rw[Ta.mp p,Avn] at h;simpa using h
end
section
open PySem.Builtin PySem.Builtin.Str PySem.StrLaws
theorem Aku (y z:List Nat):∀(a b:List Nat),rpk y z a.length (a++b)=rpk y z 0 b
 |[],b=>rfl
 |c::a,b=>Aku y z a b
theorem Px (h:Nat)(t z:List Nat):∀(a b:List Nat),h∉a->rpk (h::t) z 0 (a++b)=a++rpk (h::t) z 0 b
 |[],b,_=>rfl
 |c::a,b,K=>by
  have L:c≠h:=fun e=>K (e▸An ..);have J:=Px h t z a b fun q=>K (A4 _ q);show rpk (h::t) z 0 (c::(a++b))=c::(a++rpk (h::t) z 0 b);conv=>lhs;rw[Akt]
  rw[if_neg (fun e=>by
   have:=Ew e;rw[Oq,P7] at this;exact L (Hw this).1),J]
theorem Ahz (h:Nat)(t z b:List Nat):rpk (h::t) z 0 (h::(t++b))=z++rpk (h::t) z 0 b:=by
 conv=>lhs;rw[Akt]
 rw[if_pos (by simp),Oq,Z5,Aku]
inductive Tk
 |c (n:Nat)|f (i:Nat)|u
deriving DecidableEq
noncomputable def unk:List Nat:=[117,110,107,110,111,119,110]
noncomputable def tf (fld:Nat->List Nat):Tk->List Nat
 | .c n=>[n]
 | .f i=>fld i
 | .u=>unk
noncomputable def Dz (fld:Nat->List Nat)(t:List Tk):List Nat:=t.flatMap (tf fld)
section
variable {fld:Nat->List Nat}
theorem Dn (x:Tk)(t:List Tk):Dz fld (x::t)=tf fld x++Dz fld t:=Ng
theorem Hn (a b:List Tk):Dz fld (a++b)=Dz fld a++Dz fld b:=List.flatMap_append
noncomputable def sw (a b:Nat):Tk->Tk
 | .c n=>if n=a then .c b else .c n
 |x=>x
theorem Aks {a b:Nat}(O:∀i,a∉fld i)(g:a∉unk):∀t:List Tk,rpk [a] [b] 0 (Dz fld t)=Dz fld (t.map (sw a b))
 |[]=>rfl
 |x::t=>by
  rw[Dn,List.map_cons,Dn];cases x with
  |c n=>
   by_cases e:n=a
   ·subst e;have:=Ahz n [] [b] (Dz fld t);show rpk [n] [b] 0 (n::([]++Dz fld t))=tf fld (if n=n then .c b else .c n)++_;rw[this,Aks O g t,if_pos rfl];rfl
   ·show rpk [a] [b] 0 ([n]++Dz fld t)=tf fld (if n=a then .c b else .c n)++_;rw[Px a [] [b] [n] _ (by simpa using fun h=>e h.symm),Aks O g t,if_neg e];rfl
  |f i=>
   show rpk [a] [b] 0 (fld i++Dz fld t)=fld i++_;rw[Px a [] [b] _ _ (O i),Aks O g t]
  |u=>
   show rpk [a] [b] 0 (unk++Dz fld t)=unk++_;rw[Px a [] [b] _ _ g,Aks O g t]
noncomputable def Acj:Tk->Bool
 | .u=>false
 |_=>true
theorem Axc (O:∀i,117∉fld i):∀t:List Tk,Tk.c 117∉t->rpk unk [] 0 (Dz fld t)=Dz fld (t.filter Acj)
 |[],_=>rfl
 |x::t,d=>by
  have J:=Axc O t fun q=>d (A4 _ q);rw[Dn];cases x with
  |c n=>
   have K:n≠117:=fun e=>d (e▸An ..);show rpk unk [] 0 ([n]++Dz fld t)=Dz fld (Tk.c n::t.filter Acj);rw[show unk=117::[110,107,110,111,119,110] from rfl] at J |-
   rw[Px 117 _ [] [n] _ (by simpa using fun h=>K h.symm),J,Dn];rfl
  |f i=>
   show rpk unk [] 0 (fld i++Dz fld t)=Dz fld (Tk.f i::t.filter Acj);rw[show unk=117::[110,107,110,111,119,110] from rfl] at J |-
   rw[Px 117 _ [] _ _ (O i),J,Dn];rfl
  |u=>
   show rpk unk [] 0 (117::([110,107,110,111,119,110]++Dz fld t))=Dz fld (t.filter Acj);rw[show unk=117::[110,107,110,111,119,110] from rfl] at J |-
   rw[Ahz,J];rfl
noncomputable def col:List Tk->List Tk
 | .c 45::.c 45::r=>.c 45::col r
 |x::r=>x::col r
 |[]=>[]
theorem Au1 (r:List Tk):col (.c 45::.c 45::r)=.c 45::col r:=by rw[col]
theorem Ua {x:Tk}{r:List Tk}(h:∀Y,¬(x=.c 45/\r=.c 45::Y)):col (x::r)=x::col r:=by
 rw[col];intro Y U O;exact h Y ⟨U,O⟩
theorem Anq (O:∀i,45∉fld i)(K:∀i,fld i≠[]):∀(m:Nat) (t:List Tk),t.length<=m->rpk [45,45] [45] 0 (Dz fld t)=Dz fld (col t)
 |0,[],_=>by rw[col];rfl
 |m+1,[],_=>by rw[col];rfl
 |m+1,x::t,z=>by
  have b:=(Anq O K m) t (by simpa using z);by_cases R:x=.c 45
  ·subst R;cases t with
   |nil=>rw[Ua (fun Y h=>by cases h.2),show col []=[] by rw[col]];rfl
   |cons y r=>
    by_cases T:y=.c 45
    ·subst T;rw[Au1,Dn,Dn,Dn];show rpk [45,45] [45] 0 (45::([45]++Dz fld r))=[45]++_;rw[Ahz,(Anq O K m) r (by simp at z;exact Bm z)]
    ·rw[Ua (fun Y h=>T (Hw h.2).1),Dn,Dn];have W:∀c,tf fld y=c->∃a l,c=a::l/\a≠45:=by
      rintro _ rfl;cases y with
      |c n=>exact exi2 n ([]) ⟨rfl,fun e=>T (by rw[e])⟩
      |f i=>
       cases e:fld i with
       |nil=>exact absurd e (K i)
       |cons a l=>exact exi2 a l ⟨e,fun q=>O i (by rw[e,q];exact An ..)⟩
      |u=>exact exi2 117 _ ⟨rfl,by decide⟩
     refine exe2 (W _ rfl) fun a l w=>?_;have e:=w.1;have M:=w.2;show rpk [45,45] [45] 0 (45::Dz fld (y::r))=[45]++_;rw[Dn] at b |-
     conv=>lhs;rw[Akt]
     rw[if_neg (fun q=>by
      rw[e] at q;have:=Ew q;simp at this;exact M this),b]
     rfl
  ·rw[Ua (fun Y h=>R h.1),Dn,Dn];have d:45∉tf fld x:=by
    cases x with
    |c n=>exact fun h=>R (by rw[A6.mp h])
    |f i=>exact O i
    |u=>exact(show 45∉unk by decide)
   rw[Px 45 [45] [45] _ _ d,b]
theorem Ww:∀(m:Nat) (t:List Tk),t.length<=m->(Dz fld (col t)).length+t.length=(Dz fld t).length+(col t).length/\((col t).length=t.length->col t=t)/\(col t).length<=t.length
 |0,[],_=>by rw[col];simp
 |m+1,[],_=>by rw[col];simp
 |m+1,x::t,z=>by
  by_cases R:∃Y,x=.c 45/\t=.c 45::Y
  ·obtain⟨r,rfl,rfl⟩:=R;obtain⟨U,O,C⟩:=(Ww m) r (by simp at z;exact Bm z);rw[Au1];simp only[Dn,As,Oq];have e:(tf fld (.c 45)).length=1:=rfl;refine⟨A9s U e,fun h=>by lia,(Dt (El C))⟩
  ·obtain⟨U,O,C⟩:=(Ww m) t (by simpa using z);rw[Ua (fun Y h=>R ⟨Y,h⟩)];simp only[Dn,As,Oq];exact⟨A9t U,fun h=>by rw[O (Hy h)],(Dt C)⟩
end
end
section
open PySem.Builtin PySem.Builtin.Str PySem.StrLaws
theorem Ld {a b:Str}(h:a.cps.toList=b.cps.toList):a=b:=Str.ext' (Oj.mp h)
noncomputable def ofL (l:List Nat):Str:=⟨l.toArray⟩
theorem Sb (l:List Nat):(ofL l).cps.toList=l:=rfl
theorem H9 (l:List Nat):(ofL l).length=l.length:=by unfold ofL R1;simp
theorem Acm (x:Str):ofL x.cps.toList=x:=Ld (Sb _)
theorem Q4 {p:Nat->Bool}:∀(a r:List Nat),(∀c∈a,p c=true)->(∀c,r.head?=some c->p c=false)->(a++r).takeWhile p=a
 |[],[],_,_=>rfl
 |[],c::r,_,h=>by rw[List.nil_append,Air (by rw[h c rfl];decide)]
 |c::a,r,M,h=>by
  rw[List.cons_append,Ais (M c (An ..)),Q4 a r (fun d hd=>M d (A4 _ hd)) h]
theorem Y3 (a m b:List Nat)(M:∀c∈a,C9 c=true)(Y:∀c∈b,C9 c=true)(z:m≠[])(U:∀c,m.head?=some c->C9 c=false)(O:∀c,m.getLast?=some c->C9 c=false):
  Fj (ofL (a++(m++b)))=ofL m:=by
 have k:stripLo C9 true (ofL (a++(m++b)))=a.length:=by
  show((a++(m++b)).takeWhile C9).length=_;rw[Q4 a _ M (fun c L=>U c (by cases m with
   |nil=>exact absurd rfl z
   |cons d m=>exact L))]
 have H:stripHi C9 true (ofL (a++(m++b))) a.length=a.length+m.length:=by
  show(ofL (a++(m++b))).length-(((a++(m++b)).drop a.length).reverse.takeWhile C9).length=_;rw[H9,A83,List.reverse_append,Q4 b.reverse _ (fun c L=>Y c (Tc.mp L)) (fun c L=>O c (by rw[List.head?_reverse] at L;exact L))];rw[As,As,H3,<-Dj];exact Z5 ..
 unfold Fj Txt.stripBy;split
 ·rename_i h;unfold stripSame at h;rw[A0,k,H] at h;have q1:a.length=0:=Ew h.1;have q2:a.length+m.length=(ofL (a++(m++b))).length:=Ew h.2;rw[H9] at q2;simp only[As] at q2;have W:a=[]:=Mo.mp q1;have D:b=[]:=Mo.mp (Nat.left_eq_add.mp (Zd q2));rw[W,D];simp
 ·unfold stripped;rw[k,H];apply Ld;rw[strSub_toList,Sb,Sb];rw[A83,Cn,K1]
theorem Anx (x:Str)(h:1<=x.length):Aeg x none (some (-1))=ofL x.cps.toList.dropLast:=by
 have:=sliceText_to_neg (x:=x) (j:= -1) (by decide) (Bbj (D7.mpr h));refine Oc (show Aeg x none (some (-1))=sliceText x none (some (-1)) from rfl) (this.trans ?_);unfold ofL;rw[List.dropLast_eq_take,Gy]
 congr 3
 have:x.cps.toList.length=x.length:=by unfold R1;simp
 rw[this];have e:x.length=(x.length-1)+1:=(Eu h).symm;generalize x.length-1=n at e |-
 rw[e,Int.sub_zero];exact A3s n
section
variable (fld:Nat->List Nat)
noncomputable def Et (t:List Tk):Str:=ofL (Dz fld t)
structure Om:Prop where
 ne:∀i,fld i≠[]
 len:∀i,(fld i).length<=25
 ok:∀i,∀c∈fld i,C9 c=false/\c∉[32,47,92,58,59,34,40,41,45,117]
variable {fld}
theorem Ak8 (H:Om fld):∀t:List Tk,(Dz fld t).length<=25*t.length
 |[]=>At _
 |x::t=>by
  have J:=Ak8 H t;have R:(tf fld x).length<=25:=by
   cases x with
   |c n=>exact(show 1<=25 by decide)
   |f i=>exact H.len i
   |u=>exact(show unk.length<=25 by decide)
  rw[Dn,As,Oq];exact Ag1 J R
theorem Ul (H:Om fld){t:List Tk}(h:t.length<=40):(Et fld t).length<=1000:=by
 have:=Ak8 H t;unfold Et;rw[H9];exact Ab this (Au _ h)
theorem Om.free (H:Om fld){a:Nat}(h:a∈[32,47,92,58,59,34,40,41,45,117]):∀i,a∉fld i:=fun i z=>(H.ok i a z).2 h
theorem A1y (H:Om fld){a b:Nat}(h:a∈[32,47,92,58,59,34,40,41,45,117])(g:a∉unk)(t:List Tk):J3 (Et fld t) (ofL [a]) (ofL [b])=Et fld (t.map (sw a b)):=by
 apply Ld;rw[V1 _ _ _ (by rw[H9];exact At _)];exact Aks (H.free h) g t
theorem Aw8 (H:Om fld){t:List Tk}(h:Tk.c 117∉t):J3 (Et fld t) (ofL unk) (ofL [])=Et fld (t.filter Acj):=by
 apply Ld;rw[V1 _ _ _ (by rw[H9];decide)];exact Axc (H.free (by decide)) t h
theorem Aw7 (H:Om fld)(t:List Tk):J3 (Et fld t) (ofL [45,45]) (ofL [45])=Et fld (col t):=by
 apply Ld;rw[V1 _ _ _ (by rw[H9];decide)];exact Anq (H.free (by decide)) H.ne _ t (At _)
theorem Ak2 {t:List Tk}(h:col t≠t):Et fld (col t)≠Et fld t:=fun e=>by
 obtain⟨U,O,C⟩:=Ww (fld:=fld) _ t (At _);have e:=congrArg (fun x=>x.cps.toList.length) e;have e:(Dz fld (col t)).length=(Dz fld t).length:=e;exact h (O (Zd (U.symm.trans (congrArg (·+_) e))))
theorem Ba8 (H:Om fld)(x:Tk):tf fld x≠[]:=by
 cases x with
 |c n=>exact(by simp[tf])
 |f i=>exact H.ne i
 |u=>exact(show unk≠[] by decide)
theorem Ase (H:Om fld)(t:List Tk)(x:Tk):∃d l,tf fld x=l++[d]/\Dz fld (t++[x])=(Dz fld t++l)++[d]/\(d=45↔x=.c 45):=by
 have W:=Ba8 H x;refine exi2 ((tf fld x).getLast W) ((tf fld x).dropLast) ⟨(Agc W).symm,?_,?_⟩
 ·rw[Hn,Az,Agc W]
  congr 1
  show tf fld x++[]=_;rw[Ct]
 ·cases x with
  |c n=>exact⟨fun e=>by rw[show n=45 from e],fun e=>by cases e;rfl⟩
  |f i=>exact⟨fun e=>absurd (e▸List.getLast_mem W) (H.free (a:=45) (by decide) i),fun e=>by cases e⟩
  |u=>exact⟨fun e=>absurd (show(119:Nat)=119 from rfl) (fun _=>by
    have:unk.getLast (by decide)=45:=e
    revert this;decide),fun e=>by cases e⟩
end
end
end Mine
open PySem.W PyProof.Rows PySem.Calls
namespace Mine
theorem qa {u d:Type}{x:Option u}{f:u->Option d}{b:d}(h:x.bind f=some b):∃a,x=some a/\f a=some b:=Option.bind_eq_some_iff.mp h
theorem qb {u d:Type}{x:Option u}{f:u->d}{b:d}(h:x.map f=some b):∃a,x=some a/\f a=b:=Option.map_eq_some_iff.mp h
theorem qc {u d:Type}(a:u)(f:u->Option d):(some a).bind f=f a:=rfl
theorem qd {u d:Type}(a:u)(f:u->d):(some a).map f=some (f a):=rfl
theorem qe {u:Type}{a:u}{l:List u}{i:Nat}:(a::l)[i+1]?=l[i]?:=rfl
theorem qf {u:Type}{a:u}{l:List u}:(a::l)[0]?=some a:=rfl
theorem qg {u:Type}{a b:u}{l:List u}{i:Nat}:(a::l).set (i+1) b=a::l.set i b:=rfl
theorem qh {u:Type}{a b:u}{l:List u}:(a::l).set 0 b=b::l:=rfl
theorem qi {u:Type}{a:u}{l:List u}:(a::l).length=l.length+1:=rfl
theorem qj {u:Type}:([]:List u).length=0:=rfl
theorem qk {u d:Type}{f:u->d}{a:u}{l:List u}:(a::l).map f=f a::l.map f:=rfl
theorem ql {u d:Type}{f:u->d}:[].map f=[]:=rfl
theorem qm {u:Type}(l:List u):[]++l=l:=rfl
theorem qo {u:Type}{a:u}{l r:List u}:(a::l)++r=a::(l++r):=rfl
section
open Sem (wp)
noncomputable def Amy (l:List (Code×Pos)):Bool:=l.any fun x=>x.1.isCaller
noncomputable def Att (d:Ctx):Prop:=(d.code.isCaller||Amy d.below)=true
noncomputable def A4t (d:Ctx):Prop:=Amy d.below=true
noncomputable def wpC {u:Type}(M:Mg)(A:Bs)(t:Sem u)(Q:u->Ad->Prop)(E:Ac->Ad->Prop)(s:Ad):Prop:=
 ∀d p,d.In A->Att d->wp M d t (fun a _ s'=>Q a s') (fun e _ s'=>E e s') p s
noncomputable def Jv (M:Mg)(A:Bs)(c:Code)(R:Ic->Ad->Prop)(s:Ad):Prop:=
 ∀d p,d.code=c->d.Below A->A4t d->wpCode M d R p s
section
variable {α β:Type}{M:Mg}{A:Bs}{E:Ac->Ad->Prop}{s:Ad}
theorem M5 {t:Sem α}{Q:α->Ad->Prop}(h:A1 M A t Q E s):wpC M A t Q E s:=fun d p b _=>h d p b
theorem Ajh {c:Code}{R:Ic->Ad->Prop}(h:I1 M A c R s):Jv M A c R s:=fun d p L b _=>h d p L b
theorem Ey {a:α}{Q:α->Ad->Prop}(h:Q a s):wpC M A (pure a) Q E s:=fun _ _ _ _=>h
theorem Kh {t:Sem α}{Q j:α->Ad->Prop}{g:Ac->Ad->Prop}(h:wpC M A t Q E s)
  (X:∀a s,Q a s->j a s)(I:∀e s,E e s->g e s):wpC M A t j g s:=
 fun d p b L=>X0 M d t (fun a _ s=>X a s) (fun e _ s=>I e s) p s (h d p b L)
theorem F1 {m:Sem α}{f:α->Sem β}{Q:β->Ad->Prop}(h:wpC M A m (fun a s'=>wpC M A (f a) Q E s') E s):
  wpC M A (m >>= f) Q E s:=fun d p b L=>by
 rw[Sem.wp_bind'];exact X0 M d m (fun a S s' h'=>h' d S b L) (fun _ _ _ h'=>h') p s (h d p b L)
theorem B8 {m:Sem α}{f:α->Sem β}{Q:β->Ad->Prop}(h:A1 M A m (fun a s'=>wpC M A (f a) Q E s') E s):wpC M A (m >>= f) Q E s:=F1 (M5 h)
theorem All {m:Sem α}{k:Ac->Sem Unit}{Q:α->Ad->Prop}
  (h:wpC M A m Q (fun e s'=>wpC M A (k e) (fun _ W=>E e W) E s') s):wpC M A (m.onRaise k) Q E s:=fun d p b L=>by
 rw[Sem.wp_onRaise];exact X0 M d m (fun _ _ _ h'=>h') (fun e S s' h'=>h' d S b L) p s (h d p b L)
theorem L9 {m:Sem α}{k:Ac->Sem Unit}{Q:α->Ad->Prop}(h:wpC M A m Q (fun _ _=>False) s):wpC M A (m.onRaise k) Q E s:=
 All (Kh h (fun _ _ x=>x) fun _ _ x=>x.elim)
theorem Alj {m:Sem α}{Q:Except Ac α->Ad->Prop}(h:wpC M A m (fun a=>Q (.ok a)) (fun e=>Q (.error e)) s):
  wpC M A m.attempt Q E s:=fun d p b L=>by rw[Sem.wp_attempt];exact h d p b L
theorem Zu {vs:List Ac}{m:Sem α}{Q:α->Ad->Prop}(h:wpC M A m Q E s):wpC M A (holding vs m) Q E s:=
 fun d p b L=>by rw[Sem.wp_holding];exact h d p b L
theorem A2u {c:Prop} [Decidable c]{a b:Sem α}{Q:α->Ad->Prop}(h:if c then wpC M A a Q E s else wpC M A b Q E s):
  wpC M A (if c then a else b) Q E s:=by split<;>simp_all
theorem Ab2 {d:Ctx}{c:Code}{h:Option Ac}{p:Pos}(L:Att d):A4t (d.enter c h p):=by
 show Amy ((d.code,p)::d.below)=true;unfold Amy;rw[Bbk];exact L
theorem A02 {Γ:Ctx}(h:A4t Γ):Att Γ:=by unfold Att;rw[show Amy Γ.below=true from h,Bool.or_true]
theorem A2v {c:Code}{h:Option Ac}{Q:Flow->Ad->Prop}
  (L:Jv M (A.mark h) c (fun r s'=>match r with| .ok f=>Q f s'| .error e=>E e s') s)(a:h≠some byPass):
  wpC M A (run c h) Q E s:=
 fun d p b Y=>by rw[Sem.wp_run];exact L _ p rfl (b.enter c h p a) (Ab2 Y)
theorem Aie {c:Code}{Q:Ac->Ad->Prop}
  (L:Jv M A c (fun r s'=>match r with| .ok (.ret v)=>Q v s'| .ok _=>False| .error e=>E e s') s):
  wpC M A (runValue c) Q E s:=fun d p b Y=>by rw[Sem.wp_runValue];exact L _ p rfl (b.enter c none p (by intro x;cases x)) (Ab2 Y)
theorem Xr {f:Ac}{pos:List Ac}{k:List (Str×Ac)}{Q:Ac->Ad->Prop}
  (L:Jv M A (.call f ⟨pos,k⟩) (fun r s'=>match r with| .ok (.ret v)=>Q v s'| .ok _=>False| .error e=>E e s') s):
  wpC M A (call f pos k) Q E s:=Aie L
theorem Ir {c:Code}{R:Ic->Ad->Prop}
  (h:wpC M (A.under c) (M.den c) (fun H s'=>match H with| .done f=>R (.ok f) s'| .again c'=>c'.quiet=true/\Jv M A c' R s')
   (fun e s'=>R (.error e) s') s):Jv M A c R s:=fun d p L b j=>by
 rw[wpCode_iff_wp,L];refine X0 M d _ (fun H S s' h'=>?_) (fun _ _ _ h'=>h') p s (h d p (L▸b.in) (A02 j));cases H with
 |done f=>exact h'
 |again c'=>exact⟨h'.1,h'.2 (d.goto c') S rfl (b.goto c') j⟩
theorem Asq {Q:List (Code×Pos)->Ad->Prop}(h:∀st:List (Code×Pos),Amy st=true->Q st s):wpC M A stack Q E s:=fun d p b Y=>by
 show Q ((d.code,p)::d.below) s;exact h _ (by unfold Amy;rw[Bbk];exact Y)
theorem Ayc {own:List String}{e:Ac}{Q:Unit->Ad->Prop}(h:Q () s):wpC M A (Z6 own e) Q E s:=by
 unfold Z6;refine F1 (Asq fun st b=>?_);have key:∀x y z:Bool,x=true->((!x&&y)&&z)=false:=by decide
 have a:(st.map (·.1)).any Code.isCaller=true:=by rw[Aar];exact b
 have:pythonCodeMadeTheCall own (st.map (·.1))=false:=key _ _ _ a;rw[if_neg (by rw[this];decide)];exact Ey h
end
end
section
open PySem.NumText
section
variable {prog:Ia}{w:F7}{M:Mg}{A:Bs}{E:Ac->Ad->Prop}{s:Ad}
theorem A2t {x:Str}{t:Tok}{Q:Ac->Ad->Prop}(P:A.handled=none)(N:x.length<=640)(L:∀c∈x.cps.toList,c<128)(f:PySem.intText? x=none)
  (h:∀h' tk e,(∀b o,s.heap.get? b=some o→h'.get? b=some o)→s.heap.get? e=none→(∃D n,h'.get? e=some D∧D.cls=.type "ValueError"∧D.data=.fields #[n,.none,.none,.none,.bool false,.none])→E (.ref e) {s with heap:=h',toks:=tk}):
  wpC (model prog w) A ((int_private%"intFromText") (.str x t) (Sz x) 10) Q E s:=by
 have l:(Alt x).length<=640:=Ab (A8m x) N;have j:(int_private%"readNumeral") 0 10 (Alt x)=int_private%"Numeral.invalid"∨
   ∃i,(int_private%"readNumeral") 0 10 (Alt x)=(int_private%"Numeral.value") i∧¬((Alt x).length==(Sz x).length)=true:=by
  rcases read0 x l with⟨m,h1,_⟩|⟨_,h2⟩
  ·exact nomatch f.symm.trans h1
  ·exact h2
 show wpC (model prog w) A (if((Sz x).takeWhile (· != 0)).length<=640 then _ else _) Q E s;rw[if_pos (show((Sz x).takeWhile (· != 0)).length<=640 from l)];refine F1 (Ey ?_);have H:wpC (model prog w) A (do
   rule "int.__new__.invalid-literal"
   let g←(int_private%"bytesOf?") (.str x t)
   match g with
   |some b=>do
    let g<-mkBytes (b.extract 0 200)
    let a<-pyRepr g
    let g←mkStr (oS (Kz "invalid literal for int() with base "++Kz 10++Kz ": ")++⟨a.cps.extract 0 200⟩)
    let r←newExc (.type "ValueError") [g]
    Z6 ["int.__new__"] r
    raiseNew r
   |none=>do
    let a<-pyRepr (.str x t)
    let g←mkStr (oS (Kz "invalid literal for int() with base "++Kz 10++Kz ": ")++⟨a.cps.extract 0 200⟩)
    let r←newExc (.type "ValueError") [g]
    Z6 ["int.__new__"] r
    raiseNew r) Q E s:=by
  refine B8 (S7 ?_);refine B8 (show A1 _ _ (pure none) _ _ _ from Al ?_);refine B8 (wpAny_pyRepr_str ?_ ?_)
  ·refine B8 (wpAny_mkStr ?_ ?_)
   ·refine B8 (wpAny_newExc_plain plainExc_ValueError (fun K e z=>?_) (by simp[C7]));refine F1 (Ayc ?_);refine M5 (wpAny_raiseNew_none P (h _ _ _ (fun b o e=>z.keeps b o e) z.new ?_));obtain⟨n,C,_⟩:=z.there;exact exi2 _ _ ⟨C,rfl,rfl⟩
   ·show(oS _++_:Str).cps.size<=Ky;rw[B4,C7,Ay0,Aye];have:(oS (Kz "invalid literal for int() with base "++Kz 10++Kz ": ")).cps.size≤1000:=by decide+kernel
    exact Ab (Ar (Ab (Dy _ _) (Ab (G5 _ _) (At _))) _) (by decide)
  ·have:=PySem.StrLaws.reprText_len x (fun c h=>Cv (L c h) (by decide));rw[C7];exact Ab (Ab this (Bp (Au _ N) _)) (by decide)
 rcases j with j|⟨i,j,W⟩
 ·dsimp only;rw[show(int_private%"readNumeral") 0 10 (A85 (fun x=>x != 0) (Sz x))=_ from j];refine B8 (show A1 _ _ (pure none) _ _ _ from Al ?_);exact H
 ·dsimp only;rw[show(int_private%"readNumeral") 0 10 (A85 (fun x=>x != 0) (Sz x))=_ from j];show wpC _ _ (if((Alt x).length==(Sz x).length)=true then _ else _) _ _ _;rw[if_neg W];exact H
theorem U1 {id:String}{C:Args}{b:Builtin}{R:Ic->Ad->Prop}(Y:V8 table id=some b)
  (h:wpC (model prog w) (A.under (.builtin id C)) (b C)
   (fun H s'=>match H with| .done f=>R (.ok f) s'| .again c'=>c'.quiet=true/\Jv (model prog w) A c' R s') (fun e s'=>R (.error e) s') s):
  Jv (model prog w) A (.builtin id C) R s:=by
 refine Ir ?_;show wpC _ _ (match V8 table id with|some b=>b C|none=>unsupported ((withoutEnding? id "#data").getD id)) _ _ s;rw[Y];exact h
theorem Vl {id:String}{C:Args}{R:Ic->Ad->Prop}(hq:(Aq0 id C).quiet=true)(hk:V7 id C=pure ())
  (h:Jv (model prog w) A (.builtin id C) R s):Jv (model prog w) A (.call (.builtin id) C) R s:=by
 refine Ir ?_;show wpC _ A.in1 (do V7 id C;again (.builtin id C)) _ _ s;rw[hk];exact Ey ⟨hq,h⟩
theorem T5 (a b:Ac):checkTypeCall "int" ⟨[a,b],[]⟩=pure ():=by kernel_rfl
theorem U4 (a b:Ac):V7 "int.__new__" ⟨[.type "int",a,b],[]⟩=pure ():=by kernel_rfl
theorem Ph (a b c:Ac):Aeb "object.__init__" ⟨[a,b,c],[]⟩:=by
 kernel_rfl
theorem Ab6 (x:Str)(t u:Tok):Builtin.«int.__new__» ⟨[.type "int",.str x t,.int 10 u],[]⟩=((int_private%"intFromText") (.str x t) (Sz x) 10 >>= fun v=>ret v):=by
 unfold Builtin.«int.__new__»;simp only[show isType (.type "int")=pure true from rfl,F.conv_sub_int,F.madeHere_int,pure_bind,Bbi];rfl
theorem Ad6 (a b:Ac):∃R:Ac→Sem Fin,Builtin.«type.__call__» ⟨[.type "int",a,b],[]⟩=(holding [.builtin "int.__new__"] (call (.builtin "int.__new__") [.type "int",a,b]) >>= R):=by
 have f:=F.called_int;refine exe2 f.mro fun c t d=>?_;have h:=f.made;unfold Builtin.«type.__call__»;simp only[f.notType,f.canCreate,(T5 a b),d,h,pure_bind,Ch,if_false,A22];exact⟨_,rfl⟩
theorem Aje {x:Str}{t u:Tok}{Q:Ac->Ad->Prop}(P:A.handled=none)(N:x.length<=640)(L:∀c∈x.cps.toList,c<128)(K:PySem.intText? x=none)
  (h:∀h' tk e,(∀b o,s.heap.get? b=some o→h'.get? b=some o)→s.heap.get? e=none→(∃D n,h'.get? e=some D∧D.cls=.type "ValueError"∧D.data=.fields #[n,.none,.none,.none,.bool false,.none])→E (.ref e) {s with heap:=h',toks:=tk}):
  wpC (model prog w) A (call (.type "int") [.str x t,.int 10 u]) Q E s:=by
 refine Xr (Ir ?_);refine Ey ⟨Azb _ (by decide+kernel),U1 F.entry_type_call ?_⟩;rw[Around.under_plain (weight_type_call_type "int" _ []) (units_type_call_type "int" _ [])];obtain⟨R,l⟩:=Ad6 (.str x t) (.int 10 u);rw[l];refine F1 (Zu (Xr (Vl (Azb _ (by decide+kernel)) (U4 _ _) (U1 F.entry_int_new ?_))));rw[Ab6];exact F1 (A2t P N L K h)
end
end
section
open Sem (wp)
noncomputable abbrev noE:Ac->Ad->Prop:=fun _ _=>False
section
variable {prog:Ia}{w:F7}{A:Bs}{E:Ac->Ad->Prop}{s:Ad}{env:Env}
theorem Alk {M:Mg}{u:Type}{vs:List Ac}{m:Sem u}{Q:u->Ad->Prop}(h:wpC M A m Q E s):wpC M A (m.keep vs) Q E s:=
 fun d p b L=>by rw[Sem.wp_keep];exact h d p b L
theorem L8 {M:Mg}{t:Sem Ac}{Q:Ac->Ad->Prop}(h:wpC M A t Q E s):wpC M A (t >>= fun r=>holding [r] point >>= fun _=>pure r) Q E s:=
 F1 (Kh h (fun r j d=>F1 (M5 (Ci (wpAny_point (Ey d))))) fun _ _ x=>x)
theorem S5 {M:Mg}{pos:Pos}{a:Addr}{o:Obj}{fd:J8}{first:List Ac}{C:List (Bool×Sem Ac)}{Q:Ac->Ad->Prop}
  (h:A1 M A (evalArgs (.ref a) true C []) (fun x s1z=>(s1z.heap.get? a=some o/\o.data=.func fd)/\wpC M A (call (.ref a) (first++x.pos) x.kw) Q E s1z) E s):
  wpC M A (A8k pos (.ref a) first C []) Q E s:=by
 refine B8 (Ci (Do h (fun x s1z K=>B8 (Df ?_)) fun _ _ x=>x));cases l:C.any (·.1)<;>simp only[List.any_nil,Zb]<;>
  refine B8 (m:=keeperOf (.ref a)) ?_<;>unfold keeperOf<;>
  refine Ag (Xz K.1.1 ?_)<;>rw[K.1.2]<;>refine Al ?_
 ·
  first
   |refine A2u ?_
   |skip
  split<;>first
   |exact L8 K.2
   |exact L8 (by unfold callMarked;exact Alk K.2)
 ·
  first
   |exact L8 (by unfold callMarked;exact Alk K.2)
   |exact L8 K.2
theorem Xs {M:Mg}{pos:Pos}{T:String}{first:List Ac}{C:List (Bool×Sem Ac)}{Q:Ac->Ad->Prop}(b:C.any (·.1)=false)
  (h:A1 M A (evalArgs (.type T) true C []) (fun a s1z=>wpC M A (call (.type T) (first++a.pos) a.kw) Q E s1z) E s):
  wpC M A (A8k pos (.type T) first C []) Q E s:=by
 refine B8 (Ci (Do h (fun a s1z K=>B8 (Df ?_)) fun _ _ x=>x));simp only[b,List.any_nil,Zb];refine B8 (Al ?_);exact L8 K
theorem Ali {M:Mg}{a:Expr}{C:List Expr}{pos:Pos}{Q:Ac->Ad->Prop}
  (h:A1 M A (eval a env) (fun f s1z=>wpC M A (A8k pos f [] (Aed pos (E7 C env)) []) Q E s1z) E s)
  (p:eval (.Call a C [] pos) env=(do A8k pos (<-eval a env) [] (Aed pos (E7 C env)) (backToKw pos (keywordEach [] env))):=by rfl):
  wpC M A (eval (.Call a C [] pos) env) Q E s:=by
 rw[p];exact B8 h
theorem Qn {M:Mg}{t:List Expr}{m:Expr}{pos:Pos}{Q:Flow->Ad->Prop}
  (h:wpC M A (eval m env) (fun v s1z=>A1 M A (assignAll v ((Aec t env).map (·.2))) (fun _=>Q .next) E s1z) E s)
  (l:swapsWithSole t m pos.line env=pure false)(B:Gd t m env=pure none):
  wpC M A (exec (.Assign t m pos) env) Q E s:=by
 refine B8 (Df ?_);rw[l];refine B8 (Al ?_);refine F1 (Kh h (fun v s1z K=>?_) fun _ _ x=>x);rw[B];refine B8 (Al ?_);exact M5 (Ag (Do K (fun _ _ x=>Al x) fun _ _ x=>x))
theorem Ayb {e:Expr}{pos:Pos}{Q:Flow->Ad->Prop}(h:wpC (model prog w) A (eval e env) (fun _=>Q .next) E s)
  (H:interactive env=false)(l:Fo e none pos.line env=pure false):wpC (model prog w) A (exec (.Expr e pos) env) Q E s:=by
 rw[exec_Expr env e pos H l];exact B8 (Df (F1 (Kh h (fun v s' h'=>M5 (wpAny_dropValue h')) fun _ _ x=>x)))
theorem Aod {M:Mg}{e:Expr}{pos:Pos}{Q:Flow->Ad->Prop}(h:wpC M A (eval e env) (fun v=>Q (.ret v)) E s):wpC M A (exec (.Return (some e) pos) env) Q E s:=by
 exact B8 (Df (F1 (Kh h (fun v s' h'=>Ey h') fun _ _ x=>x)))
theorem A8b {M:Mg}{a:Expr}{body o:List Stmt}{pos:Pos}{Q:Flow->Ad->Prop}
  (h:A1 M A (isTrue a env (eval a env)) (fun b j=>if b then wpC M A (execs body env) Q E j else wpC M A (execs o env) Q E j) E s):
  wpC M A (exec (.If a body o pos) env) Q E s:=by
 refine B8 (Df (B8 (Do h (fun b j i=>?_) fun _ _ x=>x)));cases b<;>exact i
theorem Adc {M:Mg}{c:Code}{h:Option Ac}{Q:Flow->Ad->Prop}(L:Jv M (A.mark h) c (fun r s'=>match r with| .ok f=>Q f s'| .error e=>False) s)(a:h≠some byPass):
  wpC M A (runOwn c env h) Q E s:=by
 exact L9 (A2v L a)
theorem Asp {M:Mg}{a:Expr}{body o:List Stmt}{pos:Pos}{Q:Flow->Ad->Prop}(h:Jv M A (.whileLoop a body o env) (fun r s'=>match r with| .ok f=>Q f s'| .error e=>False) s):
  wpC M A (exec (.While a body o pos) env) Q E s:=by
 exact B8 (Df (Adc h (by intro x;cases x)))
theorem A2r {M:Mg}{target y:Expr}{body o:List Stmt}{pos:Pos}{Q:Flow->Ad->Prop}
  (h:A1 M A (eval y env) (fun x s1z=>A1 M A (Z8 x) (fun q j=>
   Jv M A (.forLoop target q body o env) (fun r s'=>match r with| .ok f=>Q f s'| .error e=>False) j) E s1z) E s)
  (l:∀x,Lg y env x=pure x):wpC M A (exec (.For target y body o pos) env) Q E s:=by
 exact B8 (Df (B8 (Do h (fun x s1z K=>B8 (A8p (l x) (B8 (Df (B8 (Ci
  (Do K (fun q j i=>Adc i (by intro x;cases x)) fun _ _ h'=>h'))))))) fun _ _ h'=>h')))
theorem A2s {M:Mg}{body o:List Stmt}{a:Ayu}{l:List Ayu}{pos:Pos}{Q:Flow->Ad->Prop}
  (h:wpC M A (execs body env) (fun f s1z=>match f with| .next=>A1 M A (execs o env) Q E s1z|f=>Q f s1z)
   (fun e s1z=>A1 M A (Aat e env) (fun _ j=>A1 M A (setFlight e none) (fun _ p=>A1 M A (handleBy e env (a::l)) Q E p) E j) E s1z) s):
  wpC M A (exec (.Try body (a::l) o [] pos) env) Q E s:=by
 refine B8 (Df ?_);unfold tryStmt;refine F1 (Alj (Kh h (fun f s1z K=>?_) fun e s1z K=>?_))
 ·cases f<;>first|exact M5 K|exact Ey K
 ·exact M5 (Ag (Do K (fun _ _ i=>Ag i) fun _ _ x=>x))
theorem Amr {body:List Stmt}{R:Ic->Ad->Prop}
  (h:wpC (model prog w) (A.deeper env) (execs body env) (fun f s'=>R (.ok (.ret (match f with| .ret v=>v|_=>.none))) s') noE s):Jv (model prog w) A (.func body env) R s:=by
 refine Ir ?_;refine B8 (wpAny_point (F1 (L9 (Kh h (fun f s' h'=>?_) fun _ _ h'=>h'))));cases f<;>exact Ey h'
theorem Uq {a:Addr}{C:Args}{o:Obj}{fd:J8}{body:List Stmt}{R:Ic->Ad->Prop}(g:A.depth<Atb)
  (y:s.heap.get? a=some o)
  (f:o.data=.func fd)(p:fd.scope.isCoroutine=false)(l:fd.scope.isGenerator=false)(k:fd.body=.stmts body)(q:s.heap.CodeRec fd.code fd.qualname)
  (h:A1 (model prog w) A.in1 (A8j fd C) (fun d s1z=>
   A1 (model prog w) A.in1 (As9 fd.scope fd.globals fd.closure d (fd.qualname++".<locals>.") (some a) fd.code none fd.builtins)
    (fun G j=>j.heap.NoLimit/\Jv (model prog w) A (.func body G) R j) (fun e s'=>R (.error e) s') s1z) (fun e s'=>R (.error e) s') s):
  Jv (model prog w) A (.call (.ref a) C) R s:=by
 refine Ir ?_;show wpC _ A.in1 (callAny (.ref a) C) _ _ s;refine B8 (Xz y ?_);refine Aa fun X=>?_;refine exe4 q fun c J vs t u=>?_;obtain⟨L,b,n,hq⟩:=u;refine X ?_;simp only[f,callFunction,p,l,k,L];rw[L] at h;refine B8 (m:=field (.ref c) 1) (Oe b n hq (B8 (Al ?_)));exact B8 (Do h (fun d s1z K=>B8 (Do K (fun G j i=>B8 (wpAny_enterFrame i.1 g
  (Ey (Ad7 rfl i.2)))) fun _ _ h'=>h')) fun _ _ h'=>h')
end
end
section
open Sem (wp)
noncomputable abbrev Γ0:Ctx:=⟨.builtin "claim.caller" {},none,none,[],none⟩
theorem Amp:Att Γ0:=rfl
theorem A5v {prog:Ia}{w:F7}{t:Sem Fin}{s:Ad}{R:Ic->Ad->Prop}(a:s.asleep)
  (h:wpC (model prog w) Aqw t (fun H s'=>∃f,H=.done f/\R (.ok f) s'/\Lf s'.gens) (fun e s'=>R (.error e) s'/\Lf s'.gens) s):
  ∃n r s' W,schedN (denote table) prog w n (.single s ⟨t,.builtin "claim.caller" {},default,[]⟩)=.halted (Ay9 r) W∧runN (denote table) prog w n s ⟨t,.builtin "claim.caller" {},default,[]⟩=.halted (Ay9 r) W∧
   W.forget=s'.forget/\R r s':=by
 exact wp_halts_full (M:=model prog w) (R:=R) a (X0 _ _ t (fun H S s' ⟨f,e,q⟩=>e▸⟨q.1,Aly q.2⟩) (fun e _ s' q=>⟨q.1,Aly q.2⟩) default s (h Γ0 default caller_in Amp))
theorem Amn {c:ClaimW}{g:List Ac->Sem Fin}{w:F7}{s:Ad}{n:Addr->Prop}{gens:Prop}{kept:Heap->Prop}(hz:s.asleep)(j:s.gens= #[])
  (m:∀C,c.pre C=true->A3d C=true->
   ∀ord:List Ay5->List Ay5,(∀l,(ord l).Perm l)->
   ∃vs s1z,layAllW c.records (classAt s.heap) w.params ord C s=some (vs,s1z)/\
    wpC (model c.prog w) Aqw (g vs) (fun H s'=>∃f,H=.done f/\(c.Ends s C vs s1z (.ok f) s'/\s'.os=s.os/\kept s'.heap)/\Lf s'.gens)
     (fun e s'=>(c.Ends s C vs s1z (.error e) s'/\s'.os=s.os/\kept s'.heap)/\Lf s'.gens) s1z):
  c.CallFrom (fun vs=>⟨g vs,.builtin "claim.caller" {},default,[]⟩) w n gens kept s:=by
 intro C q p ord z;refine Aa fun P=>?_;refine exe2 (m C q p ord z) fun vs s1z L=>?_;have a:=L.1;refine(A5v (prog:=c.prog) (w:=w) (t:=g vs) (s:=s1z)
  (R:=fun r s'=>c.Ends s C vs s1z r s'/\s'.os=s.os/\kept s'.heap) (Shared.asleep_of_life (Aio _ _ _ a).2.2.2 hz) L.2).elim fun k h=>h.elim fun r h=>h.elim fun W h=>h.elim fun s' h=>?_
 have O:=Shared.forget_eq h.2.2.1;have A:=O.1;refine P ⟨vs,s1z,a,k,_,s',h.1,?_,(fun _ i x u=>by rw[j] at u;simp at u),(A▸h.2.2.2.2.2),(congrArg _ ((runN_life _ _ _ h.2.1).trans (Aio _ _ _ a).2.2.2)),Shared.rest_eq (O.2.2.2.1▸h.2.2.2.2.1)⟩;exact(h.2.2.2.1.congr A).imp (Aga fun v=>And.imp (congrArg Ay9) (Ma (Ma (Ma (And.imp_left fun d b o y _=>d b o y)))))
  (Aga fun e=>Aga fun D=>Aga fun cls=>And.imp (congrArg Ay9) (Ma (Ma (Ma (Ma fun d b o y _=>d b o y)))))
noncomputable abbrev Aud (q:Ia)(l:List Str)(XP:(Str->Option Ac)->Heap->Prop)(Y:F7->Heap->Prop)(r:RowW)(d:DefRec)(k:List (Str×Expr)):Prop:=
 ∀(w:F7)(s s1z:Ad)(mg m:Str->Option Ac),Ground q l r.records XP w s mg m s1z.heap->Y w s1z.heap->∀(a:Addr)(o:Obj)(g f y c h:Ac),s1z.heap.get? a=some o->
  o.data=.func {docDef d.name d.params d.body d.scope g f y with defaults:=c,kwdefaults:=h}->s1z.heap.CodeRec f d.name->Dflts mg s1z.heap d.params k c h->mg d.name=some (.ref a)->s1z.gens= #[]->
  ∀(C:List WData)(b:List Ac)(as:List Addr),r.claim.pre C=true->A3d C=true->ReadsAllW r.records (classAt s.heap) s1z.heap b C as->WellAll w.params s1z.heap b C->(∀a∈as,(a==sysModules)=false)->
   wpC (model r.prog w) Aqw (PySem.call (.ref a) b) (fun v s'=>GoodWG r.claim (classAt s.heap) (R0 s.heap) C s1z (.ok (.ret v)) s')
    (fun e s'=>GoodWG r.claim (classAt s.heap) (R0 s.heap) C s1z (.error e) s') s1z
theorem holds_open_caller {r:OpenRow}{q:Ia}{loose:List Str}{Xt:Ad->Bool}{XP:(Str->Option Ac)->Heap->Prop}{α:Type}{Yf:Ad->α}{Ya:F7->α}{YP:F7->Heap->Prop}{d:DefRec}{kwd:List (Str×Expr)}{N:Nat}
  (left:LeftO r.prog q loose Xt Yf Ya N)(hY:∀w s,Yf s=Ya w->YP w s.heap)(hYk:∀w h h',YP w h->(∀b o,h.get? b=some o->h'.get? b=some o)->YP w h')
  (hX:∀s,Xt s=true->XP (s.heap.nsMap Di) s.heap)(hXk:∀mg h h',XP mg h->(∀b o,h.get? b=some o->h'.get? b=some o)->XP mg h')
  (hdef:defOf q r.name=some (d,kwd))(hp:r.prog.theDef r.name=some (d.params,d.body,d.scope))(hk:kwWritten? d.params.kwonlyargs d.params.kw_defaults=some kwd)(hRf:∀s,Xt s=true->RecFacts r.records s.heap)(hwr:(!r.writes||r.records.isEmpty)=true)
  (k1:r.wellSaid=true)(ok:(chainsOk q&&opensWell r.prog&&(frees r.toRowW&&r.within.isEmpty))=true)(hb:r.prog.bare)(hw:r.toRowW.promised)
  (call:Aud q loose XP YP r.toRowW d kwd):r.Holds:=by
 refine⟨k1,hw,?_⟩;refine Aa fun zk5=>?_;obtain⟨ok,k5⟩:=Ca.mp ok;have zx7:=Ca.mp ok;have hch:=zx7.1;have k6:=(Ca.mp k5).2;obtain⟨hsame,zz25⟩:=frees_parts ((Ca.mp k5).1);refine zk5 ?_;refine⟨⟨hb,zx7.2,by show r.toRowW.makers.map _=[];rw[zz25.2.2.2];rfl⟩,hw.witness,fun w=>⟨(left.behind hX hch w).1,fun s' hs'=>?_⟩⟩;refine Aa fun zk7=>?_;obtain⟨s0,hf,hg0,s,zz19⟩:=(left.behind (XP:=fun mg h=>XP mg h/\RecFacts r.records h) (fun s hs=>⟨hX s hs,hRf s hs⟩) hch w).2 s' hs';have hT:=zz19.1;have hgens:=zz19.2.2.1;have hg:=zz19.2.2.2.1;have G00:=zz19.2.2.2.2.1;refine zk7 ?_;have G0:Ground q loose [] XP w s (s.heap.nsMap Di) (s.heap.nsMap F2) s.heap:=⟨G00.T,G00.B,G00.D,G00.TE,G00.TD,G00.W,G00.X.1,G00.cls,G00.has,G00.apart,G00.once,G00.K⟩;have RF:=G00.X.2;refine⟨s0,hf,hg0,s,hT,fun n hn=>?_,RF.1,RF.2.1,?_⟩
 ·obtain rfl:n=r.name:=by split at hn<;>simp_all
  exact pinned_of_view hg G0 hdef hp hk
 have hgens:s.gens= #[]:=Array.eq_empty_of_size_eq_zero (beq_iff_eq.mp hgens)
 have G:Ground q loose r.records XP w s _ _ s.heap:=RF.ground G0;refine Amn (c:=r.toRowW.claim) zz19.2.1 hgens fun args hpre hlay ord hord=>?_;refine Aa fun zk8=>?_;obtain⟨⟨vs,s1z⟩,hlaid⟩:=Dh.mp (layAllW_isSome (P:=w.params) (ord:=ord) G.has args r.args s (pre_splitW hpre).1);have keeps:=layAllW_keeps _ _ _ hlaid;obtain⟨as,zz13⟩:=reads_layAllW hord _ _ _ hlaid hlay s1z.heap (fun _ _ e=>e);have L:Laid r.records w s s1z args vs as:=⟨⟨ord,hord,hlaid⟩,zz13.1,zz13.2.1,zz13.2.2,keeps,(Aio _ _ _ hlaid).1.trans hgens,(Aio _ _ _ hlaid).2.2.1⟩;have G1z:=G.keeps hXk keeps;refine exe7 (G1z.fn hdef) fun a o pm cd doc dV kV zz8=>?_;refine zk8 ?_;have hwi:r.toRowW.claim.within=[]:=Ta.mp k6;refine exi2 vs s1z ⟨hlaid,?_⟩;show wpC (model r.prog w) Aqw (do match<-nsGet mainNs r.name with
   |some f=>do ret (<-PySem.call f vs)
   |none=>unsupported "claim.caller:no-such-global") _ _ s1z
 refine B8 (wpAny_nsGet G1z.T.g ?_);rw[zz8.1];refine F1 (Kh (call w s s1z _ _ G1z (hYk _ _ _ (hY w s zz19.2.2.2.2.2) keeps) a o pm cd doc dV kV zz8.2.1 zz8.2.2.1 zz8.2.2.2.1 zz8.2.2.2.2 (defOf_name hdef▸zz8.1) L.gens args vs as hpre hlay L.reads L.well (L.low G.low)) (fun v s' g=>Ey ?_) fun e s' g=>?_)
 ·have z:=g.laid (c:=r.toRowW.claim) hsame hwi (ident_freeW zz25.1 zz25.2.1 zz25.2.2.1) L;exact⟨_,rfl,⟨z.1,z.2.1,fun q=>⟨namesKept_of hT hg _ keeps g.2.1.old,noTable hwr q⟩⟩,z.2.2⟩
 ·have z:=g.laid (c:=r.toRowW.claim) hsame hwi (ident_freeW zz25.1 zz25.2.1 zz25.2.2.1) L;exact⟨⟨z.1,z.2.1,fun q=>⟨namesKept_of hT hg _ keeps g.2.1.old,noTable hwr q⟩⟩,z.2.2⟩
end
section
set_option autoImplicit true
structure Hq (p:PySem.Program) where
 G:(String->Str)->PySem.Program
 F:String->Str
 h:G F=p
noncomputable def Bb7 (G:(String->Str)->PySem.Program)(F:String->Str):Hq (G F):=⟨G,F,rfl⟩
noncomputable def hq:Hq PySem.Challenge.pw_wv0018_02:=by
 delta PySem.Challenge.pw_wv0018_02
 generalize oS=F
 revert F
 exact Bb7 _
noncomputable def hF (s:String):Str:=⟨⟨PySem.W.R.mapR Char.toNat (PySem.W.S.toListS s)⟩⟩
theorem Bah:oS=hF:=by
 funext s;rw[Str.ofString_eq_byList];unfold Str.ofStringByList hF;rw[<-PySem.W.S.toListS_eq,<-PySem.W.R.mapR_eq]
section
local macro_rules
 | `(tactic|refine $t)=>do
  if(t.raw.find? fun s=>s.isIdent&&s.getId== `PySem.W.holds_open).isNone then Lean.Macro.throwUnsupported
  `(tactic|assumption)
theorem hk (h:PySem.Challenge.rw_wv0018_02.row.Holds):PySem.Challenge.rw_wv0018_02.row.Holds:=by
 k_head
end
noncomputable def hd2.tw16820311423216863723:PySem.Program:=hq.G hF
theorem hd2.te16820311423216863723:PySem.Challenge.pw_wv0018_02=hd2.tw16820311423216863723:=
 (hq.h.symm).trans (congrArg hq.G (Bah:hq.F=hF))
noncomputable def hD:DefRec×List (Str×PySem.Expr):=(defOf hk.view_1 (oS "law")).getD ⟨⟨default,default,default,default,default⟩,[]⟩
section
local macro_rules
 | `(tactic|o_head $H)=>do
  if(H.raw.find? fun s=>s.isNatLit?==some 95).isSome then Lean.Macro.throwUnsupported
  let args:=H.raw[1][1].getArgs
  if args.size != 4 then Lean.Macro.throwUnsupported
  let k:Lean.TSyntax `term:=⟨args[0]!⟩
  let a:Lean.TSyntax `term:=⟨args[1]!⟩
  let e:Lean.TSyntax `term:=⟨args[2]!⟩
  let ts:Lean.TSyntax `term:=⟨args[3]!⟩
  `(tactic|o_head (kmHook $k $a $e (95:: $ts)))
local macro_rules
 | `(tactic|refine $t)=>do
  if(t.raw.find? fun s=>s.isIdent&&s.getId== `PySem.W.holds_open).isNone then Lean.Macro.throwUnsupported
  let t'<-t.raw.replaceM fun s=>pure (if s.isIdent&&s.getId== `PySem.W.holds_open then some (Lean.mkIdent `Mine.holds_open_caller).raw else if s.isOfKind `Lean.Parser.Term.syntheticHole&&s[1].getId== `hc then some (Lean.mkIdent `walk).raw else none)
  let u:Lean.TSyntax `term:=⟨t'⟩
  `(tactic|refine $u)
set_option Elab.async true in
theorem hd2 (walk:Aud hk.view_1 [oS "twin_re_1_platform",oS "_ver_stages",oS "twin_re_1_smtplib",oS "_twin_re_2"]
  (XL hk.view_1 []) (kmHook hk.heap_1 [2,3,6,11,12,32,34,35,37,38,39,41,42,44,45,46,48,49,51,52,53,55,56,58,59,60,62,63,
     65,66,67,69,70,72,73,74,76,77,79,80,84,85,86,87,89,90,92,93,94,96,97,99,100,104,105,
     109,110,111,113,114,116,117,118,120,121,123,124,125,128,129,130,132,133,135,136,137,139,
     140,142,143,144,147,148] (fun _=>by kernel_rfl) [95,54,47]).says
  PySem.Challenge.rw_wv0018_02.row.toRowW hD.1 hD.2):PySem.Challenge.rw_wv0018_02.Holds:=by
 w_on;o_law;k_head;(case hw=>w_witness2)
end
end
noncomputable abbrev Up (g h:Heap):Prop:=∀b o,g.get? b=some o->h.get? b=some o
theorem Up.trans {g h k:Heap}(x:Up g h)(y:Up h k):Up g k:=fun b o e=>y b o (x b o e)
theorem Up.rfl {g:Heap}:Up g g:=fun _ _ e=>e
noncomputable def sub (h:Heap)(p:Addr->Bool):Heap:=A3a h ((Gb h.objs.size).filter fun b=> !p b)
theorem Cw (h:Heap)(p:Addr->Bool)(b:Addr):(sub h p).get? b=if p b=true then h.get? b else none:=by
 unfold sub;cases e:h.get? b with
 |none=>
  cases q:(A3a h ((Gb h.objs.size).filter fun b=> !p b)).get? b with
  |none=>split<;>rfl
  |some o=>rw[of_hideAll _ q] at e;cases e
 |some o=>
  cases I:p b with
  |true=>
   rw[if_pos rfl];exact A8s _ e (by simp[I])
  |false=>
   rw[if_neg (by simp)];exact A3b _ (by simp[I,D5 e])
inductive PV where
 |none
 |bool (b:Bool)
 |int (i:Int)
 |str (x:Str)
 |bytes (b:Array UInt8)
 |typ (n:String)
 |tuple (l:List PV)
 |list (l:List PV)
 |fn (a:Addr)
deriving Inhabited
inductive MV where
 |p (x:PV)
 |mu (i:Nat)
 |tup (l:List MV)
deriving Inhabited
inductive MO where
 |lst (l:List PV)
 |wl (l:List PV)(o:Obj)
 |dct (l:List (Str×PV))
deriving Inhabited
mutual
inductive PR (g:Heap):PV->Ac->Prop
 |none:PR g .none .none
 |bool (b:Bool):PR g (.bool b) (.bool b)
 |int (i:Int)(t:Tok):PR g (.int i) (.int i t)
 |str (x:Str)(t:Tok):PR g (.str x) (.str x t)
 |bytes (x:Array UInt8)(t:Tok):PR g (.bytes x) (.bytes x t)
 |typ (n:String):PR g (.typ n) (.type n)
 |tuple {a:Addr}{vs:List Ac}{l:List PV}:g.IsTuple a vs.toArray->PRs g l vs->PR g (.tuple l) (.ref a)
 |list {a:Addr}{vs:List Ac}{l:List PV}{n:Nat}:IsL g a vs.toArray n->PRs g l vs->PR g (.list l) (.ref a)
 |fn (a:Addr):PR g (.fn a) (.ref a)
inductive PRs (g:Heap):List PV->List Ac->Prop
 |nil:PRs g [] []
 |cons {x:PV}{v:Ac}{l:List PV}{vs:List Ac}:PR g x v->PRs g l vs->PRs g (x::l) (v::vs)
end
noncomputable abbrev UpS (g h:Heap):Prop:=∀b o,g.get? b=some o->(∃i n,o.data=.seq i n)->h.get? b=some o
theorem Up.s {g h:Heap}(x:Up g h):UpS g h:=fun b o e _=>x b o e
theorem Hu {g h:Heap}{a:Addr}{its:Array Ac}(u:UpS g h)(x:g.IsTuple a its):h.IsTuple a its:=
 x.elim fun o k=>k.elim fun e k=>k.elim fun c k=>k.elim fun n d=>⟨o,u _ _ e ⟨_,_,d⟩,c,n,d⟩
theorem PR.ups {g h:Heap}(u:UpS g h){x:PV}{v:Ac}(r:PR g x v):PR h x v:=
 PR.rec (motive_1:=fun x v _=>PR h x v) (motive_2:=fun l vs _=>PRs h l vs) .none .bool .int .str .bytes .typ (fun t _ i=>.tuple (Hu u t) i)
  (fun t _ i=>.list (u _ _ t ⟨_,_,rfl⟩) i) .fn .nil (fun _ _ a b=>.cons a b) r
theorem PRs.ind {g:Heap}{P:List PV->List Ac->Prop}(I:P [] [])
  (U:∀{x:PV}{v:Ac}{l:List PV}{vs:List Ac},PR g x v->PRs g l vs->P l vs->P (x::l) (v::vs)){l:List PV}{vs:List Ac}(r:PRs g l vs):P l vs:=
 PRs.rec (motive_1:=fun _ _ _=>True) (motive_2:=fun l vs _=>P l vs) trivial (fun _=>trivial) (fun _ _=>trivial) (fun _ _=>trivial) (fun _ _=>trivial) (fun _=>trivial)
  (fun _ _ _=>trivial) (fun _ _ _=>trivial) (fun _=>trivial) I (fun a b _ i=>U a b i) r
theorem PRs.ups {g h:Heap}(u:UpS g h){l:List PV}{vs:List Ac}(r:PRs g l vs):PRs h l vs:=r.ind (P:=PRs h) .nil (fun a _ i=>.cons (a.ups u) i)
theorem PR.up {g h:Heap}(u:Up g h){x:PV}{v:Ac}(r:PR g x v):PR h x v:=r.ups u.s
theorem PRs.up {g h:Heap}(u:Up g h){l:List PV}{vs:List Ac}(r:PRs g l vs):PRs h l vs:=r.ups u.s
theorem PRs.length {g:Heap}{l:List PV}{vs:List Ac}(r:PRs g l vs):vs.length=l.length:=
 r.ind (P:=fun l vs=>vs.length=l.length) rfl (fun _ _ e=>congrArg Ays e)
theorem PRs.append {g:Heap}{l j:List PV}{vs vs':List Ac}(r:PRs g l vs)(Y:PRs g j vs'):PRs g (l++j) (vs++vs'):=
 r.ind (P:=fun l vs=>PRs g (l++j) (vs++vs')) Y (fun a _ i=>.cons a i)
theorem PRs.get {g:Heap}{l:List PV}{vs:List Ac}(r:PRs g l vs):∀{i:Nat} {x:PV},l[i]?=some x->∃v,vs[i]?=some v/\PR g x v:=
 r.ind (P:=fun l vs=>∀{i:Nat}{x:PV},l[i]?=some x->∃v,vs[i]?=some v/\PR g x v) (fun e=>nomatch e)
  (@fun _ _ _ _ a _ J i _=>Nat.casesOn i (fun e=>⟨_,rfl,Af e▸a⟩) (fun _ e=>J e))
theorem PRs.take {g:Heap}{l:List PV}{vs:List Ac}(r:PRs g l vs):∀n,PRs g (l.take n) (vs.take n):=
 r.ind (P:=fun l vs=>∀n,PRs g (l.take n) (vs.take n)) (fun n=>Nat.casesOn n .nil (fun _=>.nil)) (fun a _ J n=>Nat.casesOn n .nil (fun n=>.cons a (J n)))
theorem PRs.drop {g:Heap}{l:List PV}{vs:List Ac}(r:PRs g l vs):∀n,PRs g (l.drop n) (vs.drop n):=
 r.ind (P:=fun l vs=>∀n,PRs g (l.drop n) (vs.drop n)) (fun n=>Nat.casesOn n .nil (fun _=>.nil)) (fun a r J n=>Nat.casesOn n (.cons a r) J)
theorem PRs.reverse {g:Heap}{l:List PV}{vs:List Ac}(r:PRs g l vs):PRs g l.reverse vs.reverse:=
 r.ind (P:=fun l vs=>PRs g l.reverse vs.reverse) .nil (fun a _ i=>Eq.mpr (congr (congrArg (PRs g) Iz) Iz) (i.append (.cons a .nil)))
theorem PRs.set {g:Heap}{l:List PV}{vs:List Ac}(r:PRs g l vs):∀(n:Nat) {x:PV} {v:Ac},PR g x v->PRs g (l.set n x) (vs.set n v):=
 r.ind (P:=fun l vs=>∀(n:Nat){x:PV}{v:Ac},PR g x v->PRs g (l.set n x) (vs.set n v)) (fun _ _ _ _=>.nil)
  (fun b r J n _ _=>Nat.casesOn n (fun a=>.cons a r) (fun n a=>.cons b (J n a)))
theorem PRs.one {g:Heap}{x:PV}{v:Ac}(a:PR g x v):PRs g [x] [v]:=.cons a .nil
mutual
inductive VR (g:Heap)(B:List Addr):MV->Ac->Prop
 |p {x:PV}{v:Ac}:PR g x v->VR g B (.p x) v
 |mu {i:Nat}{a:Addr}:B[i]?=some a->VR g B (.mu i) (.ref a)
 |tup {a:Addr}{vs:List Ac}{l:List MV}:g.IsTuple a vs.toArray->VRs g B l vs->VR g B (.tup l) (.ref a)
inductive VRs (g:Heap)(B:List Addr):List MV->List Ac->Prop
 |nil:VRs g B [] []
 |cons {x:MV}{v:Ac}{l:List MV}{vs:List Ac}:VR g B x v->VRs g B l vs->VRs g B (x::l) (v::vs)
end
theorem M3 {B I:List Addr}(p:B<+:I){i:Nat}{a:Addr}(e:B[i]?=some a):I[i]?=some a:=by
 obtain⟨t,rfl⟩:=p;have h:=(Aq.mp e).1;rw[Cz h];exact e
theorem VR.ups {g h:Heap}{B I:List Addr}(u:UpS g h)(p:B<+:I){x:MV}{v:Ac}(r:VR g B x v):VR h I x v:=
 VR.rec (motive_1:=fun x v _=>VR h I x v) (motive_2:=fun l vs _=>VRs h I l vs) (fun r=>.p (r.ups u)) (fun e=>.mu (M3 p e)) (fun t _ i=>.tup (Hu u t) i)
  .nil (fun _ _ a b=>.cons a b) r
theorem VRs.ind {g:Heap}{B:List Addr}{P:List MV->List Ac->Prop}(I:P [] [])
  (U:∀{x:MV}{v:Ac}{l:List MV}{vs:List Ac},VR g B x v->VRs g B l vs->P l vs->P (x::l) (v::vs)){l:List MV}{vs:List Ac}(r:VRs g B l vs):P l vs:=
 VRs.rec (motive_1:=fun _ _ _=>True) (motive_2:=fun l vs _=>P l vs) (fun _=>trivial) (fun _=>trivial) (fun _ _ _=>trivial) I (fun a b _ i=>U a b i) r
theorem VRs.ups {g h:Heap}{B I:List Addr}(u:UpS g h)(p:B<+:I){l:List MV}{vs:List Ac}(r:VRs g B l vs):VRs h I l vs:=
 r.ind (P:=VRs h I) .nil (fun a _ i=>.cons (a.ups u p) i)
theorem VR.up {g h:Heap}{B I:List Addr}(u:Up g h)(p:B<+:I){x:MV}{v:Ac}(r:VR g B x v):VR h I x v:=r.ups u.s p
theorem VRs.up {g h:Heap}{B I:List Addr}(u:Up g h)(p:B<+:I){l:List MV}{vs:List Ac}(r:VRs g B l vs):VRs h I l vs:=r.ups u.s p
theorem VRs.length {g:Heap}{B:List Addr}{l:List MV}{vs:List Ac}(r:VRs g B l vs):vs.length=l.length:=
 r.ind (P:=fun l vs=>vs.length=l.length) rfl (fun _ _ e=>congrArg Ays e)
theorem VRs.get {g:Heap}{B:List Addr}{l:List MV}{vs:List Ac}(r:VRs g B l vs):∀{i:Nat} {x:MV},l[i]?=some x->∃v,vs[i]?=some v/\VR g B x v:=
 r.ind (P:=fun l vs=>∀{i:Nat}{x:MV},l[i]?=some x->∃v,vs[i]?=some v/\VR g B x v) (fun e=>nomatch e)
  (@fun _ _ _ _ a _ J i _=>Nat.casesOn i (fun e=>⟨_,rfl,Af e▸a⟩) (fun _ e=>J e))
theorem VRs.append {g:Heap}{B:List Addr}{l j:List MV}{vs vs':List Ac}(r:VRs g B l vs)(Y:VRs g B j vs'):VRs g B (l++j) (vs++vs'):=
 r.ind (P:=fun l vs=>VRs g B (l++j) (vs++vs')) Y (fun a _ i=>.cons a i)
theorem VRs.one {g:Heap}{B:List Addr}{x:MV}{v:Ac}(a:VR g B x v):VRs g B [x] [v]:=.cons a .nil
noncomputable def PRf (g:Heap)(x:PV)(v:Ac):Prop:=match x with
 | .none=>v=.none
 | .bool b=>v=.bool b
 | .int i=>∃t,v=.int i t
 | .str x=>∃t,v=.str x t
 | .bytes x=>∃t,v=.bytes x t
 | .typ n=>v=.type n
 | .fn a=>v=.ref a
 | .tuple l=>∃a vs,v=.ref a/\g.IsTuple a vs.toArray/\PRs g l vs
 | .list l=>∃a vs n,v=.ref a/\IsL g a vs.toArray n/\PRs g l vs
theorem PR.inv {g:Heap}{x:PV}{v:Ac}(r:PR g x v):PRf g x v:=
 PR.casesOn (motive_1:=fun x v _=>PRf g x v) r rfl (fun _=>rfl) (fun _ t=>⟨t,rfl⟩) (fun _ t=>⟨t,rfl⟩) (fun _ t=>⟨t,rfl⟩) (fun _=>rfl) (fun h r=>exi2 _ _ ⟨rfl,h,r⟩)
  (fun h r=>exi3 _ _ _ ⟨rfl,h,r⟩) (fun _=>rfl)
noncomputable def VRf (g:Heap)(B:List Addr)(x:MV)(v:Ac):Prop:=match x with
 | .p x=>PR g x v
 | .mu i=>∃a,v=.ref a/\B[i]?=some a
 | .tup l=>∃a vs,v=.ref a/\g.IsTuple a vs.toArray/\VRs g B l vs
theorem VR.inv {g:Heap}{B:List Addr}{x:MV}{v:Ac}(r:VR g B x v):VRf g B x v:=
 VR.casesOn (motive_1:=fun x v _=>VRf g B x v) r id (fun h=>⟨_,rfl,h⟩) (fun h r=>exi2 _ _ ⟨rfl,h,r⟩)
theorem VR.pl {g:Heap}{B:List Addr}{x:PV}{v:Ac}(r:VR g B (.p x) v):PRf g x v:=PR.inv r.inv
noncomputable def A9l (g:Heap)(l:List PV)(vs:List Ac):Prop:=match l with
 |[]=>vs=[]
 |x::l=>∃v ws,vs=v::ws/\PR g x v/\PRs g l ws
theorem PRs.inv {g:Heap}{l:List PV}{vs:List Ac}(r:PRs g l vs):A9l g l vs:=r.ind (P:=A9l g) rfl (fun a b _=>⟨_,_,rfl,a,b⟩)
noncomputable def A9m (g:Heap)(B:List Addr)(l:List MV)(vs:List Ac):Prop:=match l with
 |[]=>vs=[]
 |x::l=>∃v ws,vs=v::ws/\VR g B x v/\VRs g B l ws
theorem VRs.inv {g:Heap}{B:List Addr}{l:List MV}{vs:List Ac}(r:VRs g B l vs):A9m g B l vs:=r.ind (P:=A9m g B) rfl (fun a b _=>⟨_,_,rfl,a,b⟩)
theorem VRs.i1 {g:Heap}{B:List Addr}{x:MV}{vs:List Ac}(r:VRs g B [x] vs):∃v,vs=[v]/\VR g B x v:=
 r.inv.elim fun v k=>k.elim fun _ k=>⟨v,k.1.trans (congrArg (v:: ·) k.2.2.inv),k.2.1⟩
theorem VRs.i2 {g:Heap}{B:List Addr}{x y:MV}{vs:List Ac}(r:VRs g B [x,y] vs):∃v w,vs=[v,w]/\VR g B x v/\VR g B y w:=
 r.inv.elim fun v k=>k.elim fun _ k=>k.elim fun e k=>k.elim fun a b=>b.i1.elim fun w k=>⟨v,w,e.trans (congrArg (v:: ·) k.1),a,k.2⟩
theorem A2 {u:Type}{a:u}{P:Prop}(h:none=some a):P:=nomatch h
theorem Am {u:Type}{p:Prop} [Decidable p]{a:Option u}{b:u}(h:(if p then a else none)=some b):p/\a=some b:=by
 by_cases q:p
 ·exact⟨q,(if_pos q).symm.trans h⟩
 ·exact A2 ((if_neg q).symm.trans h)
theorem Aw {u d:Type}{x:Option u}{f:u->Option d}{y:d}{P:Prop}(e:x.bind f=some y)(h:∀a,x=some a->f a=some y->P):P:=
 (qa e).elim fun a k=>h a k.1 k.2
theorem Ur {u d:Type}{x:Option u}{f:u->d}{y:d}{P:Prop}(e:x.map f=some y)(h:∀a,x=some a->some (f a)=some y->P):P:=
 (qb e).elim fun a k=>h a k.1 (congrArg some k.2)
theorem E4 {u d:Type}{x:Option u}{f:u->d}{y:d}{P:Prop}(e:x.map f=some y)(h:∀a,x=some a->f a=y->P):P:=
 let ⟨a,W,D⟩:=qb e;h a W D
noncomputable def PV.i? (x:PV):Option Int:=match x with
 | .int a=>some a
 |_=>H7
noncomputable def PV.s? (x:PV):Option Str:=match x with
 | .str a=>some a
 |_=>H7
noncomputable def MV.i? (x:MV):Option Int:=match x with
 | .p y=>y.i?
 |_=>none
theorem PV.i_i {x:PV}{a:Int}(h:x.i?=some a):x=.int a:=by
 cases x with
 |int b=>exact congrArg PV.int (Af h)
 |_=>exact A2 h
theorem PV.s_i {x:PV}{a:Str}(h:x.s?=some a):x=.str a:=by
 cases x with
 |str b=>exact congrArg PV.str (Af h)
 |_=>exact A2 h
theorem MV.i_i {x:MV}{a:Int}(h:x.i?=some a):x=.p (.int a):=by
 cases x with
 |p y=>exact congrArg MV.p (PV.i_i h)
 |_=>exact A2 h
noncomputable def MV.m? (x:MV):Option Nat:=match x with
 | .mu i=>some i
 |_=>H7
theorem MV.m_i {x:MV}{i:Nat}(h:x.m?=some i):x=.mu i:=by
 cases x with
 |mu b=>exact congrArg MV.mu (Af h)
 |_=>exact A2 h
noncomputable def MV.p? (x:MV):Option PV:=match x with
 | .p i=>some i
 |_=>H7
theorem MV.p_i {x:MV}{i:PV}(h:x.p?=some i):x=.p i:=by
 cases x with
 |p b=>exact congrArg MV.p (Af h)
 |_=>exact A2 h
noncomputable def MV.f? (x:MV):Option Addr:=x.p?.bind fun y=>match y with
 | .fn a=>some a
 |_=>H7
theorem MV.f_i {x:MV}{a:Addr}(h:x.f?=some a):x=.p (.fn a):=Aw h fun y W e=>by
 rw[MV.p_i W];cases y with
 |fn b=>exact congrArg (fun a=>MV.p (.fn a)) (Af e)
 |_=>exact A2 e
noncomputable def MV.tu? (x:MV):Option (List PV):=x.p?.bind fun y=>match y with
 | .tuple a=>some a
 |_=>H7
theorem MV.tu_i {x:MV}{a:List PV}(h:x.tu?=some a):x=.p (.tuple a):=Aw h fun y W e=>by
 rw[MV.p_i W];cases y with
 |tuple b=>exact congrArg (fun a=>MV.p (.tuple a)) (Af e)
 |_=>exact A2 e
theorem VRs.i3 {g:Heap}{B:List Addr}{x y z:MV}{vs:List Ac}(r:VRs g B [x,y,z] vs):∃u v w,vs=[u,v,w]/\VR g B x u/\VR g B y v/\VR g B z w:=
 r.inv.elim fun u k=>k.elim fun _ k=>k.elim fun e k=>k.elim fun a b=>b.i2.elim fun v k=>k.elim fun w k=>⟨u,v,w,e.trans (congrArg (u:: ·) k.1),a,k.2⟩
theorem Rk {u:Type}{l:List u}{i j:Nat}{x y:u}(h:(l.set i x)[j]?=some y):(j=i/\y=x)\/(j≠i/\l[j]?=some y):=by
 by_cases q:i=j
 ·subst q;have N:=(Aq.mp h).1;rw[Mc] at N;exact .inl ⟨rfl,Af (h.symm.trans (Fe N))⟩
 ·exact .inr ⟨fun e=>q e.symm,(Gf q).symm.trans h⟩
theorem Vt {u:Type}{l:List u}(h:l.Nodup){i j:Nat}{a:u}(U:l[i]?=some a)(O:l[j]?=some a):i=j:=
 (List.getElem?_inj (Aq.mp U).1 h).mp (U.trans O.symm)
noncomputable def Ahu {u:Type}:List u->Option u
 |[x]=>some x
 |_=>none
theorem Zo {u:Type}{xs:List u}{x:u}(h:Ahu xs=some x):xs=[x]:=by
 cases xs with
 |nil=>exact A2 h
 |cons y l=>cases l with
  |nil=>exact congrArg (fun x=>[x]) (Af h)
  |cons z l=>exact A2 h
noncomputable def Bbb {u:Type}(l:List u):Option (u×u):=match l with
 |[x,y]=>some (x,y)
 |_=>H7
theorem Bbc {u:Type}{l:List u}{x y:u}(h:Bbb l=some (x,y)):l=[x,y]:=by
 cases l with
 |nil=>exact A2 h
 |cons a l=>cases l with
  |nil=>exact A2 h
  |cons b l=>cases l with
   |nil=>cases h;rfl
   |cons z l=>exact A2 h
noncomputable def MV.s? (x:MV):Option Str:=match x with
 | .p y=>y.s?
 |_=>none
theorem MV.s_i {x:MV}{a:Str}(h:x.s?=some a):x=.p (.str a):=by
 cases x with
 |p y=>exact congrArg MV.p (PV.s_i h)
 |_=>exact A2 h
noncomputable def MV.l? (x:MV):Option (List PV):=x.p?.bind fun y=>match y with
 | .list a=>some a
 |_=>H7
theorem MV.l_i {x:MV}{a:List PV}(h:x.l?=some a):x=.p (.list a):=Aw h fun y W e=>by
 rw[MV.p_i W];cases y with
 |list b=>exact congrArg (fun a=>MV.p (.list a)) (Af e)
 |_=>exact A2 e
noncomputable def MV.b? (x:MV):Option (Array UInt8):=x.p?.bind fun y=>match y with
 | .bytes a=>some a
 |_=>H7
theorem MV.b_i {x:MV}{a:Array UInt8}(h:x.b?=some a):x=.p (.bytes a):=Aw h fun y W e=>by
 rw[MV.p_i W];cases y with
 |bytes b=>exact congrArg (fun a=>MV.p (.bytes a)) (Af e)
 |_=>exact A2 e
noncomputable def MV.tp? (x:MV):Option (List MV):=match x with
 | .tup i=>some i
 |_=>H7
theorem MV.tp_i {x:MV}{i:List MV}(h:x.tp?=some i):x=.tup i:=by
 cases x with
 |tup b=>exact congrArg MV.tup (Af h)
 |_=>exact A2 h
noncomputable def at? {α:Type}(l:List (Option α))(i:Nat):Option α:=(l[i]?).bind id
theorem A0g {u:Type}{l:List (Option u)}{i:Nat}{d:u}(h:at? l i=some d):l[i]?=some (some d):=Aw h fun _ W e=>W.trans (congrArg some e)
theorem Aov {u:Type}{l:List (Option u)}{i:Nat}{d:u}(h:l[i]?=some (some d)):at? l i=some d:=congrArg (fun z:Option (Option u)=>z.bind id) h
noncomputable def Lb:List MV->Option (List PV)
 |[]=>some []
 | .p x::r=>(Lb r).map (x:: ·)
 |_::_=>none
theorem Kg:Lb []=some []:=rfl
theorem Kf (x:PV)(r:List MV):Lb (.p x::r)=(Lb r).map (x:: ·):=rfl
theorem VRs.plains {g:Heap}{B:List Addr}{l:List MV}{vs:List Ac}(r:VRs g B l vs):∀{ps:List PV},Lb l=some ps->PRs g ps vs:=
 r.ind (P:=fun l vs=>∀{ps:List PV},Lb l=some ps->PRs g ps vs) (fun e=>Af e▸.nil)
  (fun{x _ _ _} a _ J {_}=>MV.casesOn (motive_1:=fun x=>VRf g B x _->Lb (x::_)=some _->PRs g _ _) x
   (fun _ a e=>(qb e).elim fun _ k=>k.2▸.cons a (J k.1)) (fun _ _ e=>nomatch e) (fun _ _ e=>nomatch e) a.inv)
theorem PRs.vrs {g:Heap}{B:List Addr}{l:List PV}{vs:List Ac}(r:PRs g l vs):VRs g B (l.map .p) vs:=
 r.ind (P:=fun l vs=>VRs g B (l.map .p) vs) .nil (fun a _ i=>.cons (.p a) i)
noncomputable def mkTup (l:List MV):MV:=match Lb l with
 |some ps=>.p (.tuple ps)
 |none=>.tup l
set_option tactic.hygienic true in
theorem VR.mkTup {g:Heap}{B:List Addr}{a:Addr}{l:List MV}{vs:List Ac}(t:g.IsTuple a vs.toArray)(r:VRs g B l vs):VR g B (mkTup l) (.ref a):=by
 unfold Mine.mkTup;split
 ·rename_i ps e;exact .p (.tuple t (r.plains e))
 ·exact .tup t r
section
structure Dx where
 code:Addr
 tab:Addr
 qual:Str
structure Cx where
 prog:Ia
 w:F7
 K:Frag
 p:Ia
 loose:List Str
 mean:Hs->Option Ac
 mg:Str->Option Ac
 mb:Str->Option Ac
 tabs:List Dx
noncomputable abbrev Cx.M (c:Cx):Mg:=model c.prog c.w
structure Az1 (mg mb:Str->Option Ac)(h:Heap):Prop where
 g:h.Ns Di mg
 b:h.Ns F2 mb
 bmain:∃bm ob,mg "__builtins__"=some (.ref bm)∧bm≠F2∧h.get? bm=some ob∧ob.cls=.type "module"∧ob.dict=some F2∧ob.data=.plain
theorem Az1.keeps {mg m:Str->Option Ac}{h h':Heap}(x:Az1 mg m h)(hk:∀b o,h.get? b=some o->h'.get? b=some o):Az1 mg m h':=
 ⟨x.g.keeps hk,x.b.keeps hk,x.bmain.elim fun a k=>k.elim fun D k=>⟨a,D,k.1,k.2.1,hk _ _ k.2.2.1,k.2.2.2⟩⟩
structure Wj (c:Cx)(g:Heap):Prop where
 k:c.K.In g
 top:Az1 c.mg c.mb g
 code:∀q∈c.tabs,CodeHd g q.code q.tab
theorem Wj.up {c:Cx}{g h:Heap}(u:Up g h)(x:Wj c g):Wj c h:=⟨x.k.keeps u,x.top.keeps u,fun q hq=>(x.code q hq).keeps u⟩
structure Sp (q:Dx)(ps:Array Ac)(g:Heap):Prop where
 tri:Ay7 ps.toList
 rec_:∀pos cv,Sy pos ps.toList=some cv->(∃c',cv=.ref c')/\g.CodeRec cv q.qual
theorem Sp.up {q:Dx}{ps:Array Ac}{g h:Heap}(u:Up g h)(x:Sp q ps g):Sp q ps h:=
 ⟨x.tri,fun pos d e=>⟨(x.rec_ pos d e).1,(x.rec_ pos d e).2.keeps u⟩⟩
inductive MR (g h:Heap)(a:Addr):MO->Prop
 |lst {vs:List Ac}{l:List PV}{n:Nat}:IsL h a vs.toArray n->PRs g l vs->MR g h a (.lst l)
 |wl {vs:List Ac}{l:List PV}{o:Obj}:(h.get? a=some o∧o.cls=.type "list"∧∃n,o.data=.seq vs.toArray n)→PRs g l vs→MR g h a (.wl l o)
 |dct {l:List (Str×PV)}{m:Str→Option Ac}:h.Ns a m→(∃o es ep,h.get? a=some o∧o.cls=.type "dict"∧o.data=.dict es ep∧es.size≤l.length)→
   (∀x:Str,match l.lookup x with|some d=>∃v,m x=some v/\PR g d v|none=>m x=none)->MR g h a (.dct l)
inductive Hd where
 |ns (m:Str->Option Ac)
 |obj (o:Obj)
 |st (o:Obj)
inductive HK where
 |ns|obj|st
noncomputable def Hd.kind:Hd->HK
 | .ns _=>.ns
 | .obj _=>.obj
 | .st _=>.st
noncomputable def kd (q:Addr×Hd):Addr×HK:=(q.1,q.2.kind)
noncomputable def Hd.Ok (h:Heap)(a:Addr):Hd->Prop
 | .ns m=>h.Ns a m
 | .obj o=>h.get? a=some o/\(∀v,o.data≠.cell v)/\∀vs,o≠Qb vs
 | .st o=>a=H2∧h.get? a=some o∧∃d,h.Ns a d∧d "sys.recursionlimit"=none
theorem Ns.plainO {h:Heap}{a:Addr}{m:Str->Option Ac}(x:h.Ns a m):∃o,h.get? a=some o/\(∀v,o.data≠.cell v)/\∀vs,o≠Qb vs:=
 x.elim fun o k=>k.elim fun _ k=>k.elim fun _ k=>⟨o,k.1,fun v e=>(nomatch k.2.1.symm.trans e),fun vs e=>(nomatch k.2.1.symm.trans (congrArg Obj.data e))⟩
theorem Hd.Ok.get {h:Heap}{a:Addr}{q:Hd}(x:q.Ok h a):∃o,h.get? a=some o/\(∀v,o.data≠.cell v)/\∀vs,o≠Qb vs:=by
 cases q with
 |ns m=>exact Ns.plainO x
 |obj o=>exact⟨o,x⟩
 |st _=>exact x.2.2.elim fun _ k=>Ns.plainO k.1
theorem Hd.Ok.live {h:Heap}{a:Addr}{q:Hd}(x:q.Ok h a):∃o,h.get? a=some o:=x.get.elim fun o k=>⟨o,k.1⟩
theorem Hd.Ok.lt {h:Heap}{a:Addr}{q:Hd}(x:q.Ok h a):a<h.objs.size:=x.live.elim fun _ e=>D5 e
theorem Hd.Ok.at {h h':Heap}{a:Addr}{q:Hd}(x:q.Ok h a)(e:∀o,h.get? a=some o->h'.get? a=some o):q.Ok h' a:=by
 cases q with
 |ns m=>exact Heap.Ns.at (show h.Ns a m from x) e
 |obj o=>exact⟨e _ x.1,x.2⟩
 |st o=>exact x.elim fun U k=>k.elim fun I k=>k.elim fun d k=>⟨U,e _ I,d,Heap.Ns.at k.1 e,k.2⟩
theorem Hd.Ok.keeps {h h':Heap}{a:Addr}{q:Hd}(x:q.Ok h a)(u:Up h h'):q.Ok h' a:=x.at fun o e=>u _ _ e
theorem Hd.Ok.nec {h:Heap}{a b:Addr}{q:Hd}{v:Option Ac}(x:q.Ok h a)(y:h.IsCell b v):b≠a:=fun e=>by
 obtain⟨o,W,n,_⟩:=x.get;obtain⟨l,D,d⟩:=y;subst e;rw[W] at D;cases D;exact n _ d
theorem Hd.Ok.net {h:Heap}{a b:Addr}{q:Hd}{ps:Array Ac}(x:q.Ok h a)(y:h.get? b=some (Qb ps)):b≠a:=fun e=>by
 obtain⟨o,W,_,n⟩:=x.get;subst e;rw[W] at y;cases y;exact n _ rfl
structure FSt (c:Cx)(g:Heap)(s:Ad)(B:List Addr)(Z:List (Option MO))(fs:List (Addr×Hd)):Prop where
 keep:Up g s.heap
 bare:Lf s.gens
 len:B.length=Z.length
 mu:∀(i:Nat) (o:MO) (a:Addr),Z[i]?=some (some o)->B[i]?=some a->g.get? a=none/\MR g s.heap a o
 dead:∀(i:Nat) (a:Addr),Z[i]?=some none->B[i]?=some a->∃o,g.get? a=some o
 nd:B.Nodup
 liv:∀a∈B,∃o,s.heap.get? a=some o
 fr:∀q∈fs,q.2.Ok s.heap q.1/\g.get? q.1=none/\q.1∉B
 fnd:(fs.map (·.1)).Nodup
 top:Wj c g
 tab:∀q∈c.tabs,g.get? q.tab=none/\∃ps,s.heap.get? q.tab=some (Qb ps)/\Sp q ps g
 tnd:(c.tabs.map (·.tab)).Nodup
inductive VK where
 |loc|own|cap
deriving DecidableEq
structure Sg where
 names:List (Str×Eb)
 vars:List (Str×VK)
 known:List (Str×Addr):=[]
structure St (c:Cx)(S:Sg)(env:Env)(g:Heap)(s:Ad)(B:List Addr)(Z:List (Option MO))(fs:List (Addr×Hd))(V:List (Option MV)):Prop where
 kind:env.scope.kind=.function
 glob:env.globals=Di
 blt:env.builtins=F2
 sc:env.scope.names=S.names
 fst:∃m,FSt c g s B Z ((env.locals,.ns m)::fs)/\∀(i:Nat) (x:Str) (d:MV),S.vars[i]?=some (x,.loc)->V[i]?=some (some d)->∃v,m x=some v/\VR g B d v
 loc:∀(i:Nat) (x:Str),S.vars[i]?=some (x,.loc)->env.kindOf x=some .local
 own:∀(i:Nat) (x:Str),S.vars[i]?=some (x,.own)->env.kindOf x=some .cell/\∃a ov,env.cells.lookup x=some a/\g.get? a=none/\s.heap.IsCell a ov/\∀d,V[i]?=some (some d)->∃v,ov=some v/\VR g B d v
 inj:∀(i j:Nat) (x y:Str) (a:Addr),S.vars[i]?=some (x,.own)->S.vars[j]?=some (y,.own)->env.cells.lookup x=some a->env.cells.lookup y=some a->i=j
 cap:∀(i:Nat) (x:Str) (d:MV),S.vars[i]?=some (x,.cap)->V[i]?=some (some d)->(env.kindOf x=some .cell\/env.kindOf x=some .free)/\∃a v,env.cells.lookup x=some a/\g.IsCell a (some v)/\VR g B d v
 names:(S.vars.map (·.1)).Nodup
 len:V.length=S.vars.length
 known:∀x a,S.known.lookup x=some a->env.cells.lookup x=some a
structure AOk (A:Bs)(k:Nat)(fl:List (Addr×HK)):Prop where
 hh:A.handled=none
 depth:A.depth+k<Atb
 units:A.units+10*k<cLine
 frames:∃outer,A.frames=some outer/\∀e∈outer,e.scope.kind≠.module/\∃L,e.frame=some L/\(L,HK.ns)∈fl
 sta:(H2,HK.st)∈fl
theorem AOk.le {A:Bs}{k a:Nat}{fl:List (Addr×HK)}(x:AOk A k fl)(h:a<=k):AOk A a fl:=
 ⟨x.hh,Ah (Ar h _) x.depth,Ah (Ar (Au 10 h) _) x.units,x.frames,x.sta⟩
structure Ev (g:Heap)(s:Ad)(B:List Addr)(g':Heap)(s':Ad)(B':List Addr):Prop where
 up:Up g g'
 pre:B<+:B'
 os:s'.os=s.os
theorem Ev.refl (g:Heap)(s:Ad)(B:List Addr):Ev g s B g s B:=⟨Up.rfl,Bi _,rfl⟩
theorem Ev.trans {g N a:Heap}{s s' W:Ad}{B I B'':List Addr}(x:Ev g s B N s' I)(y:Ev N s' I a W B''):Ev g s B a W B'':=
 ⟨x.up.trans y.up,x.pre.trans y.pre,y.os.trans x.os⟩
theorem Ev.same {g N:Heap}{s s':Ad}{B:List Addr}(u:Up g N)(p:s'.os=s.os):Ev g s B N s' B:=
 ⟨u,Bi _,p⟩
section
variable {c:Cx}{S:Sg}{env:Env}{g:Heap}{s:Ad}{B:List Addr}{Z:List (Option MO)}{fs:List (Addr×Hd)}{V:List (Option MV)}
theorem MR.up {g N h h':Heap}{a:Addr}{o:MO}(u:Up g N)(b:∀x,h.get? a=some x->h'.get? a=some x):MR g h a o->MR N h' a o:=fun r=>by
 induction r with
 |lst t r=>exact .lst (b _ t) (r.up u)
 |wl t r=>exact .wl ⟨b _ t.1,t.2⟩ (r.up u)
 | @dct l m n q k=>
  refine .dct (n.at b) (q.elim fun o q=>q.elim fun w q=>q.elim fun f q=>⟨o,w,f,b _ q.1,q.2⟩) fun x=>?_;have q:=k x
  revert q
  cases l.lookup x with
  |some d=>exact fun q=>q.elim fun v k=>⟨v,k.1,k.2.up u⟩
  |none=>exact id
theorem MR.l {g h:Heap}{a:Addr}{l:List PV}(r:MR g h a (.lst l)):∃vs n,IsL h a vs.toArray n/\PRs g l vs:=
 MR.casesOn (motive:=fun o _=>∀l,o=.lst l->∃vs n,IsL h a vs.toArray n/\PRs g l vs) r (fun t r _ e=>exi2 _ _ ⟨t,(MO.noConfusion e id:_=_)▸r⟩) (fun _ _ _ e=>nomatch e) (fun _ _ _ _ e=>nomatch e) l rfl
theorem MR.w {g h:Heap}{a:Addr}{l:List PV}{o:Obj}(r:MR g h a (.wl l o)):∃vs,(h.get? a=some o∧o.cls=.type "list"∧∃n,o.data=.seq vs.toArray n)∧PRs g l vs:=
 MR.casesOn (motive:=fun q _=>q=.wl l o→∃vs,(h.get? a=some o∧o.cls=.type "list"∧∃n,o.data=.seq vs.toArray n)∧PRs g l vs) r (fun _ _ e=>nomatch e)
  (fun t r e=>MO.noConfusion e fun W D=>⟨_,D▸t,W▸r⟩) (fun _ _ _ e=>nomatch e) rfl
theorem MR.obj {g h:Heap}{a:Addr}{o:MO}(r:MR g h a o):∃x,h.get? a=some x/\(∀v,x.data≠.cell v)/\∀vs,x≠Qb vs:=
 MR.casesOn r (fun t _=>⟨_,t,fun _ e=>(nomatch e),fun _ e=>(nomatch congrArg (·.data) e)⟩) (fun t _=>t.2.2.elim fun n e=>⟨_,t.1,fun _ q=>(nomatch e.symm.trans q),fun _ q=>(nomatch e.symm.trans (congrArg (·.data) q))⟩)
  (fun _ t _=>t.elim fun _ k=>k.elim fun _ k=>k.elim fun _ k=>⟨_,k.1,fun _ q=>(nomatch k.2.2.1.symm.trans q),fun _ q=>(nomatch k.2.2.1.symm.trans (congrArg (·.data) q))⟩)
theorem MR.live {g h:Heap}{a:Addr}{o:MO}(r:MR g h a o):∃x,h.get? a=some x:=r.obj.elim fun x k=>⟨x,k.1⟩
noncomputable def grow (g h h':Heap):Heap:=sub h' fun b=>(g.get? b).isSome||(h.get? b).isNone
theorem O4 {h h':Heap}(M:Up g h)(u:Up h h'):Up g (grow g h h'):=fun b o e=>by
 unfold grow;rw[Cw,if_pos (by simp[e])];exact u _ _ (M _ _ e)
theorem Ajx {h h':Heap}:Up (grow g h h') h':=fun b o e=>by
 unfold grow at e;rw[Cw] at e;split at e
 ·exact e
 ·exact A2 e
theorem Nv {h h':Heap}{b:Addr}{o:Obj}(n:h.get? b=none)(e:h'.get? b=some o):(grow g h h').get? b=some o:=by
 unfold grow;rw[Cw,if_pos (by simp[n])];exact e
theorem L3 {h h':Heap}{b:Addr}{o:Obj}(n:g.get? b=none)(e:h.get? b=some o):(grow g h h').get? b=none:=by
 unfold grow;rw[Cw,if_neg (by simp[n,e])]
theorem FSt.grow (F:FSt c g s B Z fs){s':Ad}(u:Up s.heap s'.heap)(Y:Lf s'.gens):FSt c (Mine.grow g s.heap s'.heap) s' B Z fs where
 keep:=Ajx
 bare:=Y
 len:=F.len
 mu:=fun i o a H M=>by
  obtain⟨U,O⟩:=F.mu i o a H M;obtain⟨x,R⟩:=O.live;exact⟨L3 U R,O.up (O4 F.keep u) fun x e=>u _ _ e⟩
 dead:=fun i a U O=>let ⟨o,e⟩:=F.dead i a U O;⟨o,O4 F.keep u _ _ e⟩
 nd:=F.nd
 liv:=fun a M=>(F.liv a M).elim fun o e=>⟨o,u _ _ e⟩
 fr:=fun q hq=>by
  obtain⟨o,e⟩:=((F.fr q hq).1).live;exact⟨((F.fr q hq).1).keeps u,L3 (F.fr q hq).2.1 e,(F.fr q hq).2.2⟩
 fnd:=F.fnd
 top:=F.top.up (O4 F.keep u)
 tab:=fun q hq=>by
  refine Aa fun P=>?_;obtain⟨U,ps,z⟩:=F.tab q hq;have O:=z.1;have C:=z.2;exact P ⟨L3 U O,ps,u _ _ O,C.up (O4 F.keep u)⟩
 tnd:=F.tnd
theorem St.keep (T:St c S env g s B Z fs V):Up g s.heap:=T.fst.elim fun _ k=>k.1.keep
theorem St.bare (T:St c S env g s B Z fs V):Lf s.gens:=T.fst.elim fun _ k=>k.1.bare
theorem St.top (T:St c S env g s B Z fs V):Wj c g:=T.fst.elim fun _ k=>k.1.top
theorem St.ml (T:St c S env g s B Z fs V):B.length=Z.length:=T.fst.elim fun _ k=>k.1.len
theorem St.frame (T:St c S env g s B Z fs V){N:Heap}{s':Ad}{I:List Addr}{Z':List (Option MO)}{m':Str->Option Ac}(F:FSt c N s' I Z' ((env.locals,.ns m')::fs))(u:Up g N)(R:B<+:I)
  (z:∀m,s.heap.Ns env.locals m->m=m')
  (L:∀a o,g.get? a=none->s.heap.IsCell a o->N.get? a=none/\s'.heap.IsCell a o):St c S env N s' I Z' fs V where
 kind:=T.kind
 glob:=T.glob
 blt:=T.blt
 sc:=T.sc
 fst:=by
  refine Aa fun y=>?_;obtain⟨m,b⟩:=T.fst;have h:=b.2;have e:=z m (b.1.fr _ (.head _)).1;subst e;exact y ⟨_,F,fun i x d U O=>(h i x d U O).elim fun v k=>⟨v,k.1,k.2.up u R⟩⟩
 loc:=T.loc
 own:=fun i x h=>by
  refine Aa fun w=>?_;obtain⟨U,a,D,f⟩:=T.own i x h;refine w ?_;exact⟨U,a,D,f.1,(L a D f.2.1 f.2.2.1).1,(L a D f.2.1 f.2.2.1).2,fun d hd=>(f.2.2.2 d hd).elim fun v k=>⟨v,k.1,k.2.up u R⟩⟩
 inj:=T.inj
 cap:=fun i x d U O=>by
  refine Aa fun n=>?_;obtain⟨C,a,v,p⟩:=T.cap i x d U O;exact n ⟨C,a,v,p.1,p.2.1.keeps u,p.2.2.up u R⟩
 names:=T.names
 len:=T.len
 known:=T.known
theorem St.grow (T:St c S env g s B Z fs V){s':Ad}(u:Up s.heap s'.heap)(Y:Lf s'.gens):St c S env (Mine.grow g s.heap s'.heap) s' B Z fs V:=by
 obtain⟨m,d⟩:=T.fst;have F:=d.1;refine T.frame (F.grow u Y) (O4 F.keep u) (Bi _) (fun m' b=>?_) fun a o U O=>?_
 ·funext x;exact b.agree (F.fr _ (.head _)).1 x
 ·obtain⟨J,z⟩:=id O;exact⟨L3 U z.1,O.keeps u⟩
theorem St.toks (T:St c S env g s B Z fs V)(t:Nat):St c S env g {s with toks:=t} B Z fs V:=by
 refine Aa fun C=>?_;obtain⟨m,R⟩:=T.fst;have F:=R.1;refine C ?_;refine T.frame (m':=m) ⟨F.keep,F.bare,F.len,F.mu,F.dead,F.nd,F.liv,F.fr,F.fnd,F.top,F.tab,F.tnd⟩ Up.rfl (Bi _) (fun m' b=>?_) fun a o U O=>⟨U,O⟩;funext x;exact b.agree (F.fr _ (.head _)).1 x
end
noncomputable def KV (c:Cx)(S:Sg)(G:Env)(g:Heap)(s:Ad)(B:List Addr)(Z':List (Option MO))(J:List (Addr×Hd))(V:List (Option MV))(d:MV)(Q:Ac->Ad->Prop):Prop:=∀N s' I v,Ev g s B N s' I->St c S G N s' I Z' J V->VR N I d v->Q v s'
theorem KV.cast {c:Cx}{S:Sg}{G:Env}{g:Heap}{s:Ad}{B:List Addr}{Z Z':List (Option MO)}{J:List (Addr×Hd)}{V:List (Option MV)}{x d:MV}{Q:Ac->Ad->Prop}(h:KV c S G g s B Z' J V d Q)(e:some (x,Z)=some (d,Z')):KV c S G g s B Z J V x Q:=by cases e;exact h
noncomputable def KB (c:Cx)(S:Sg)(G:Env)(g:Heap)(s:Ad)(B:List Addr)(Z':List (Option MO))(J:List (Addr×Hd))(V:List (Option MV))(Q:Ad->Prop):Prop:=∀N s' I,Ev g s B N s' I->St c S G N s' I Z' J V->Q s'
theorem KB.cast {c:Cx}{S:Sg}{G:Env}{g:Heap}{s:Ad}{B:List Addr}{Z Z':List (Option MO)}{J:List (Addr×Hd)}{V:List (Option MV)}{u:Type}{x d:u}{Q:u->Ad->Prop}(h:KB c S G g s B Z' J V (Q d))(e:some (x,Z)=some (d,Z')):KB c S G g s B Z J V (Q x):=by cases e;exact h
theorem KB.casts {c:Cx}{S:Sg}{G:Env}{g:Heap}{s:Ad}{B:List Addr}{Z Z':List (Option MO)}{J:List (Addr×Hd)}{V V':List (Option MV)}{Q:Ad->Prop}(h:KB c S G g s B Z' J V' Q)(e:some (V,Z)=some (V',Z')):KB c S G g s B Z J V Q:=by cases e;exact h
noncomputable def SE (c:Cx)(k:Nat)(S:Sg)(e:Expr)(f:List (Option MV)->List (Option MO)->Option (MV×List (Option MO))):Prop:=
 ∀(A:Bs)(G:Env)(g:Heap)(s:Ad)(B:List Addr)(Z:List (Option MO))(J:List (Addr×Hd))(V:List (Option MV))(d:MV)(Z':List (Option MO))(Q E:Ac->Ad->Prop),
  AOk A k ((G.locals,HK.ns)::J.map kd)->St c S G g s B Z J V->f V Z=some (d,Z')->
  KV c S G g s B Z' J V d Q->A1 c.M A (eval e G) Q E s
noncomputable def SB (c:Cx)(k:Nat)(S:Sg)(e:Expr)(f:List (Option MV)->List (Option MO)->Option (Bool×List (Option MO))):Prop:=
 ∀(A:Bs)(G:Env)(g:Heap)(s:Ad)(B:List Addr)(Z:List (Option MO))(J:List (Addr×Hd))(V:List (Option MV))(d:Bool)(Z':List (Option MO))(Q:Bool->Ad->Prop)(E:Ac->Ad->Prop),
  AOk A k ((G.locals,HK.ns)::J.map kd)->St c S G g s B Z J V->f V Z=some (d,Z')->
  KB c S G g s B Z' J V (Q d)->A1 c.M A (isTrue e G (eval e G)) Q E s
noncomputable abbrev Aiw (A:Bs)(k:Nat)(G:Env)(fl:List (Addr×HK)):Prop:=AOk A k fl/\∃rest,A.frames=some (G::rest)
inductive Fl where
 |next|brk|cont
 |ret (v:MV)
inductive FlR (g:Heap)(B:List Addr):Fl->Flow->Prop
 |next:FlR g B .next .next
 |brk:FlR g B .brk .brk
 |cont:FlR g B .cont .cont
 |ret {d:MV}{v:Ac}:VR g B d v->FlR g B (.ret d) (.ret v)
noncomputable abbrev SM:=List (Option MV)->List (Option MO)->Option (Fl×List (Option MV)×List (Option MO))
noncomputable def KX (c:Cx)(S:Sg)(G:Env)(g:Heap)(s:Ad)(B:List Addr)(Z':List (Option MO))(J:List (Addr×Hd))(V':List (Option MV))(fl:Fl)(Q:Flow->Ad->Prop):Prop:=∀N s' I w,Ev g s B N s' I->St c S G N s' I Z' J V'->FlR N I fl w->Q w s'
theorem KX.cast {c:Cx}{S:Sg}{G:Env}{g:Heap}{s:Ad}{B:List Addr}{Z Z':List (Option MO)}{J:List (Addr×Hd)}{V V':List (Option MV)}{fl f:Fl}{Q:Flow->Ad->Prop}(h:KX c S G g s B Z' J V' f Q)(e:some (fl,V,Z)=some (f,V',Z')):KX c S G g s B Z J V fl Q:=by cases e;exact h
noncomputable def SXT (c:Cx)(k:Nat)(S:Sg)(t:Env->Sem Flow)(f:SM):Prop:=
 ∀(A:Bs)(G:Env)(g:Heap)(s:Ad)(B:List Addr)(Z:List (Option MO))(J:List (Addr×Hd))(V:List (Option MV))(fl:Fl)(V':List (Option MV))(Z':List (Option MO))(Q:Flow->Ad->Prop)(E:Ac->Ad->Prop),
  Aiw A k G ((G.locals,HK.ns)::J.map kd)->St c S G g s B Z J V->f V Z=some (fl,V',Z')->
  KX c S G g s B Z' J V' fl Q->A1 c.M A (t G) Q E s
noncomputable abbrev SX (c:Cx)(k:Nat)(S:Sg)(e:Stmt)(f:SM):Prop:=SXT c k S (exec e) f
noncomputable abbrev SXs (c:Cx)(k:Nat)(S:Sg)(l:List Stmt)(f:SM):Prop:=SXT c k S (execs l) f
end
section
noncomputable abbrev Mu:=List (Option MO)
noncomputable abbrev Sl:=List (Option MV)
noncomputable abbrev EM:=Sl->Mu->Option (MV×Mu)
noncomputable abbrev BM:=Sl->Mu->Option (Bool×Mu)
noncomputable abbrev LM:=Sl->Mu->Option (List MV×Mu)
noncomputable def big:Nat:=2^1000
theorem Ws {a:Int}(h:a.natAbs<big):Bu a<=1000:=intBits_le h
noncomputable def ON (c:Cx)(k:Nat)(t:List Ac->Sem Ac)(f:List MV->Mu->Option (MV×Mu)):Prop:=
 ∀(S:Sg)(A:Bs)(G:Env)(g:Heap)(s:Ad)(B:List Addr)(Z:Mu)(J:List (Addr×Hd))(V:Sl)(xs:List MV)(vs:List Ac)(d:MV)(Z':Mu)(Q E:Ac->Ad->Prop),
  AOk A k ((G.locals,HK.ns)::J.map kd)->St c S G g s B Z J V->VRs g B xs vs->f xs Z=some (d,Z')->
  KV c S G g s B Z' J V d Q->A1 c.M A (t vs) Q E s
noncomputable def O1 (c:Cx)(k:Nat)(t:Ac->Sem Ac)(f:MV->Mu->Option (MV×Mu)):Prop:=
 ∀(S:Sg)(A:Bs)(G:Env)(g:Heap)(s:Ad)(B:List Addr)(Z:Mu)(J:List (Addr×Hd))(V:Sl)(x:MV)(v:Ac)(d:MV)(Z':Mu)(Q E:Ac->Ad->Prop),
  AOk A k ((G.locals,HK.ns)::J.map kd)->St c S G g s B Z J V->VR g B x v->f x Z=some (d,Z')->
  KV c S G g s B Z' J V d Q->A1 c.M A (t v) Q E s
noncomputable def O2 (c:Cx)(k:Nat)(t:Ac->Ac->Sem Ac)(f:MV->MV->Mu->Option (MV×Mu)):Prop:=
 ∀(S:Sg)(A:Bs)(G:Env)(g:Heap)(s:Ad)(B:List Addr)(Z:Mu)(J:List (Addr×Hd))(V:Sl)(x y:MV)(v w:Ac)(d:MV)(Z':Mu)(Q E:Ac->Ad->Prop),
  AOk A k ((G.locals,HK.ns)::J.map kd)->St c S G g s B Z J V->VR g B x v->VR g B y w->f x y Z=some (d,Z')->
  KV c S G g s B Z' J V d Q->A1 c.M A (t v w) Q E s
noncomputable def Y5:MV->Option Bool
 | .p (.bool b)=>some b
 | .p (.int i)=>some (i != 0)
 | .p .none=>some false
 | .p (.str x)=>if x.length<=16777216 then some ((x.length:Int) != 0) else none
 |_=>none
section
variable {c:Cx}{k:Nat}{S:Sg}{env:Env}{g:Heap}{s:Ad}{B:List Addr}{Z:Mu}{fs:List (Addr×Hd)}{V:Sl}
theorem St.ev (T:St c S env g s B Z fs V){h':Heap}(u:Up s.heap h')(tk:Nat):St c S env (Mine.grow g s.heap h') {s with heap:=h',toks:=tk} B Z fs V/\Ev g s B (Mine.grow g s.heap h') {s with heap:=h',toks:=tk} B:=
 ⟨T.grow (s':={s with heap:=h',toks:=tk}) u T.bare,.same (O4 T.keep u) rfl⟩
theorem St.tk (a:St c S env g s B Z fs V)(tk:Nat):Ev g s B g {s with toks:=tk} B:=.same Up.rfl rfl
theorem Zl {h:Heap}{n:Nat}{vs:List Ac}:(h.push {cls:=.type "tuple",data:=.seq vs.toArray n}).IsTuple h.objs.size vs.toArray:=⟨_,Cy _ rfl,rfl,_,rfl⟩
theorem Ge {h:Heap}:h.get? h.objs.size=none:=by
 cases e:h.get? h.objs.size with
 |none=>rfl
 |some o=>exact absurd (D5 e) (Em _)
theorem E6 (h:Heap)(o:Obj):Up h (h.push o):=fun _ _ e=>J2 _ e
theorem Vr {h h':Heap}{a:Addr}{its:Array Ac}(n:h.get? a=none)(t:h'.IsTuple a its):(Mine.grow g h h').IsTuple a its:=
 t.elim fun o k=>⟨o,Nv n k.1,k.2⟩
end
section
variable {c:Cx}{k:Nat}{S:Sg}
noncomputable def kE (x:PV):EM:=fun _ Z=>some (.p x,Z)
theorem A7 {i:Int}{n:Nat}{pos:Pos}:SE c k S (.Constant (.int i) n pos) (kE (.int i)):=by
 intro A G g s B Z J V d Z' Q E _ T e h;cases e;show A1 c.M A (mkInt i) Q E s;exact Alz (h g _ B _ (T.tk _) (T.toks _) (.p (.int i _)))
theorem Dk {x:Str}{n:Nat}{pos:Pos}:SE c k S (.Constant (.str x) n pos) (kE (.str x)):=by
 intro A G g s B Z J V d Z' Q E _ T e h;cases e;show A1 c.M A (mkText x) Q E s;exact Ail (h g _ B _ (T.tk _) (T.toks _) (.p (.str x _)))
theorem Tf {x:List UInt8}{n:Nat}{pos:Pos}:SE c k S (.Constant (.bytes x) n pos) (kE (.bytes x.toArray)):=by
 intro A G g s B Z J V d Z' Q E _ T e h;cases e;show A1 c.M A (mkTextBytes x.toArray) Q E s;unfold mkTextBytes;exact Ag (wpAny_fresh (Al (h g _ B _ (T.tk _) (T.toks _) (.p (.bytes _ _)))))
theorem Aad {b:Bool}{n:Nat}{pos:Pos}:SE c k S (.Constant (.bool b) n pos) (kE (.bool b)):=by
 intro A G g s B Z J V d Z' Q E _ T e h;cases e;show A1 c.M A (pure (Zg b)) Q E s;exact Al (h g _ B _ (Ev.refl _ _ _) T (.p (.bool b)))
noncomputable def vE (i:Nat):EM:=fun V Z=>match V[i]? with
 |some (some d)=>some (d,Z)
 |_=>none
set_option tactic.hygienic true in
theorem A2n {i:Nat}{V:Sl}{Z:Mu}{d:MV}{Z':Mu}(e:vE i V Z=some (d,Z')):V[i]?=some (some d)/\Z'=Z:=by
 unfold vE at e;split at e
 ·rename_i x h;cases e;exact⟨h,rfl⟩
 ·exact A2 e
theorem St.read {G:Env}{g:Heap}{s:Ad}{B:List Addr}{Z:Mu}{J:List (Addr×Hd)}{V:Sl}(T:St c S G g s B Z J V){i:Nat}{x:Str}{vk:VK}{d:MV}(l:S.vars[i]?=some (x,vk))(e:V[i]?=some (some d)){A:Bs}{Q E:Ac->Ad->Prop}
  (K:(x==("__classdict__":Str))=false)(h:∀v,VR g B d v→Q v s):A1 c.M A (loadName G x) Q E s:=by
 cases vk with
 |loc=>
  obtain⟨m,F,z⟩:=T.fst;obtain⟨v,f,r⟩:=z i x d l e;exact A8o T.kind (T.loc i x l) (F.fr _ (.head _)).1 f (h v r)
 |own=>
  refine Aa fun X=>?_;obtain⟨U,a,D,O,C,j,R⟩:=T.own i x l;obtain⟨v,rfl,r⟩:=R d e;exact X (A9a T.kind U O j (h v r))
 |cap=>
  refine Aa fun P=>?_;obtain⟨U,a,v,O,C,r⟩:=T.cap i x d l e;refine P ?_;rcases U with U|U
  ·exact A9a T.kind U O (C.keeps T.keep) (h v r)
  ·exact wpAny_loadName_free T.kind U O (C.keeps T.keep) (h v r) K
theorem Agt {i:Nat}{x:Str}{vk:VK}{pos:Pos}(l:S.vars[i]?=some (x,vk))(hd:(x==("__debug__":Str))=false)(K:(x==("__classdict__":Str))=false):SE c k S (.Name x pos) (vE i):=by
 intro A G g s B Z J V d Z' Q E _ T e h;obtain⟨W,rfl⟩:=A2n e;exact Fi (T.read l W K fun v r=>h g s B v (Ev.refl _ _ _) T r) hd
theorem vn (i:Nat)(x:Str){vk:VK}{pos:Pos}(l:S.vars[i]?=some (x,vk))(hd:(x==("__debug__":Str))=false:=by decide)(K:(x==("__classdict__":Str))=false:=by decide):SE c k S (.Name x pos) (vE i):=Agt l hd K
noncomputable def bE (f:MV->MV->Mu->Option (MV×Mu))(a b:EM):EM:=fun V Z=>(a V Z).bind fun x=>(b V x.2).bind fun y=>f x.1 y.1 y.2
theorem Wr {f:MV->MV->Mu->Option (MV×Mu)}{a b:EM}{V:Sl}{Z:Mu}{r:MV×Mu}(e:bE f a b V Z=some r):
  ∃x n y X,a V Z=some (x,n)/\b V n=some (y,X)/\f x y X=some r:=by
 unfold bE at e;refine Aa fun w=>?_;refine Aw e fun c U e=>?_;refine Aw e fun z O e=>?_;refine w ?_;exact exi4 c.1 c.2 z.1 z.2 ⟨U,O,e⟩
theorem Bh {op:Operator}{l r:Expr}{pos:Pos}{f:MV->MV->Mu->Option (MV×Mu)}{a b:EM}(M:SE c k S l a)(Y:SE c k S r b)(O:O2 c k (Lv op) f):SE c k S (.BinOp l op r pos) (bE f a b):=by
 intro A G g s B Z J V d Z' Q E P T e h;refine Aa fun z=>?_;refine exe4 (Wr e) fun x n y X zw15=>?_;obtain⟨W,D,N⟩:=zw15;refine z ?_;refine wpAny_BinOp (M A G g s B Z J V x n _ E P T W fun U s1z L v K I F=>?_);refine Y A G U s1z L n J V y X _ E P I D fun gb j q w i H m=>?_;exact O S A G gb j q X J V x y v w d Z' Q E P H (F.up i.up i.pre) m N fun t p C u R o rc=>h t p C u ((K.trans i).trans R) o rc
theorem Yb {op:CmpOp}{l r:Expr}{pos:Pos}{f:MV->MV->Mu->Option (MV×Mu)}{a b:EM}(M:SE c k S l a)(Y:SE c k S r b)(O:O2 c k (Gu op) f)(z:Ayv op r=false):SE c k S (.Compare l [op] [r] pos) (bE f a b):=by
 intro A G g s B Z J V d Z' Q E P T e h;refine Aa fun zk7=>?_;refine exe4 (Wr e) fun x n y X zw21=>?_;obtain⟨W,D,N⟩:=zw21;refine zk7 ?_;refine wpAny_Compare1 (M A G g s B Z J V x n _ E P T W fun U s1z L v K I F=>?_) z;refine Y A G U s1z L n J V y X _ E P I D fun gb j q w i H m=>?_;exact O S A G gb j q X J V x y v w d Z' Q E P H (F.up i.up i.pre) m N fun t p C u R o rc=>h t p C u ((K.trans i).trans R) o rc
noncomputable def uE (f:MV->Mu->Option (MV×Mu))(a:EM):EM:=fun V Z=>(a V Z).bind fun x=>f x.1 x.2
theorem A2l {f:MV->Mu->Option (MV×Mu)}{a:EM}{V:Sl}{Z:Mu}{r:MV×Mu}(e:uE f a V Z=some r):
  ∃x n,a V Z=some (x,n)/\f x n=some r:=by
 unfold uE at e;refine Aw e fun z U e=>?_;exact⟨z.1,z.2,U,e⟩
theorem Kc {i:UnaryOp}{l:Expr}{pos:Pos}{f:MV->Mu->Option (MV×Mu)}{a:EM}(M:SE c k S l a)(O:O1 c k (unaryOp i) f):SE c k S (.UnaryOp i l pos) (uE f a):=by
 intro A G g s B Z J V d Z' Q E P T e h;refine exe2 (A2l e) fun x n z=>?_;obtain⟨W,N⟩:=z;refine wpAny_UnaryOp (M A G g s B Z J V x n _ E P T W fun U s1z L v K I F=>?_);exact O S A G U s1z L n J V x v d Z' Q E P I F N fun b p C u R o q=>h b p C u (K.trans R) o q
theorem Xl {d:MV}{b:Bool}{g:Heap}{B:List Addr}{v:Ac}(e:Y5 d=some b)(r:VR g B d v){A:Bs}{s:Ad}{Q:Bool->Ad->Prop}{E:Ac->Ad->Prop}(h:∀tk,Q b {s with toks:=tk}):A1 c.M A (truthy v) Q E s:=by
 cases d with
 |p d=>cases d with
  |none=>rw[show v=_ from r.pl];exact truthy_none (Af e▸h s.toks)
  |bool b'=>rw[show v=_ from r.pl];exact wpAny_truthy_bool (Af e▸h s.toks)
  |int i=>obtain⟨t,rfl⟩:=r.pl;exact Adi (Af e▸h s.toks)
  |str x=>obtain⟨t,rfl⟩:=r.pl;exact PySem.P.truthy_str (by have:=(Am e).1;lia) (Af (Am e).2▸h _)
  |_=>exact A2 e
 |_=>exact A2 e
noncomputable def tB (a:EM):BM:=fun V Z=>(a V Z).bind fun x=>(Y5 x.1).map fun b=>(b,x.2)
theorem Aax {e:Expr}{a:EM}(M:SE c k S e a)(p:∀G w,isTrue e G w=(do let v<-w;Aik e.pos;holding [v] (truthy v))):SB c k S e (tB a):=by
 intro A G g s B Z J V d Z' Q E P T e h;unfold tB at e;refine Aa fun C=>?_;refine Aw e fun z W e=>?_;refine E4 e fun b D e=>?_;cases e;refine C ?_;exact Bbt (M A G g s B Z J V z.1 z.2 _ E P T W fun u s1z L v K I F=>Xl D F fun tk=>h u _ L (K.trans (I.tk tk)) (I.toks tk)) (p G _)
theorem Gt {op:CmpOp}{l r:Expr}{pos:Pos}{f:MV->MV->Mu->Option (MV×Mu)}{a b:EM}(M:SE c k S l a)(Y:SE c k S r b)(O:O2 c k (Gu op) f)(R:Ayv op r=false):SB c k S (.Compare l [op] [r] pos) (tB (bE f a b)):=by
 intro A G g s B Z J V d Z' Q E P T e h;unfold tB at e;refine Aa fun zk10=>?_;refine Aw e fun zy8 W e=>?_;obtain⟨z,n⟩:=zy8;refine E4 e fun t D e=>?_;cases e;refine exe4 (Wr W) fun x n y m zw29=>?_;obtain⟨W,N,e4⟩:=zw29;refine zk10 ?_;refine wpAny_isTrue_Compare1 (M A G g s B Z J V x n _ E P T W fun U s1z L v K I F=>?_) R;refine Y A G U s1z L n J V y m _ E P I N fun gb j q w i H rb=>?_;exact O S A G gb j q m J V x y v w z _ _ E P H (F.up i.up i.pre) rb e4 fun gc p C u X o rc=>Xl D rc fun tk=>h gc _ C (((K.trans i).trans X).trans (o.tk tk)) (o.toks tk)
noncomputable def SA (c:Cx)(k:Nat)(S:Sg)(i:Bbo)(w:List Expr)(f:BM):Prop:=
 ∀(A:Bs)(G:Env)(g:Heap)(s:Ad)(B:List Addr)(Z:Mu)(J:List (Addr×Hd))(V:Sl)(d:Bool)(Z':Mu)(Q:Bool->Ad->Prop)(E:Ac->Ad->Prop),
  AOk A k ((G.locals,HK.ns)::J.map kd)->St c S G g s B Z J V->f V Z=some (d,Z')->
  KB c S G g s B Z' J V (Q d)->A1 c.M A (allTrue i w G) Q E s
noncomputable def Ads (a b:BM):BM:=fun V Z=>(a V Z).bind fun x=>if x.1=true then b V x.2 else some (false,x.2)
noncomputable def orB (a b:BM):BM:=fun V Z=>(a V Z).bind fun x=>if x.1=true then some (true,x.2) else b V x.2
noncomputable def Vo (b:Bool):BM:=fun _ Z=>some (b,Z)
theorem Al8 {i:Bbo}:SA c k S i [] (Vo (i==.And)):=by
 intro A G g s B Z J V d Z' Q E P T e h;cases e;show A1 c.M A (pure (i==.And)) _ _ _;exact Al (h g s B (Ev.refl _ _ _) T)
theorem Agp {x:Expr}{r:List Expr}{a b:BM}(M:SB c k S x a)(Y:SA c k S .And r b):SA c k S .And (x::r) (Ads a b):=by
 intro A G g s B Z J V d Z' Q E P T e h;unfold Ads at e;refine Aw e fun z W e=>?_;obtain⟨t,n⟩:=z;show A1 c.M A (_ >>= _) _ _ _;refine Ag (M A G g s B Z J V t n _ E P T W fun u s1z L K I=>?_);cases t with
 |true=>
  rw[if_pos rfl] at e;exact Y A G u s1z L n J V d Z' Q E P I e fun gb j q i H=>h gb j q (K.trans i) H
 |false=>
  cases e;exact Al (h u s1z L K I)
theorem At6 {x:Expr}{r:List Expr}{a b:BM}(M:SB c k S x a)(Y:SA c k S .Or r b):SA c k S .Or (x::r) (orB a b):=by
 intro A G g s B Z J V d Z' Q E P T e h;unfold orB at e;refine Aw e fun z W e=>?_;obtain⟨t,n⟩:=z;show A1 c.M A (_ >>= _) _ _ _;refine Ag (M A G g s B Z J V t n _ E P T W fun u s1z L K I=>?_);cases t with
 |false=>
  exact Y A G u s1z L n J V d Z' Q E P I (e) fun gb j q i H=>h gb j q (K.trans i) H
 |true=>
  cases e;exact Al (h u s1z L K I)
theorem Agq {i:Bbo}{w:List Expr}{pos:Pos}{a:BM}(M:SA c k S i w a):SB c k S (.BoolOp i w pos) a:=by
 intro A G g s B Z J V d Z' Q E P T e h;exact wpAny_isTrue_BoolOp (M A G g s B Z J V d Z' Q E P T e h)
noncomputable def iE (t:BM)(a b:EM):EM:=fun V Z=>(t V Z).bind fun x=>if x.1=true then a V x.2 else b V x.2
theorem Qr {t a b:Expr}{pos:Pos}{f:BM}{fa p:EM}(z:SB c k S t f)(M:SE c k S a fa)(Y:SE c k S b p):SE c k S (.IfExp t a b pos) (iE f fa p):=by
 intro A G g s B Z J V d Z' Q E P T e h;unfold iE at e;refine Aw e fun l W e=>?_;obtain⟨x,n⟩:=l;refine wpAny_IfExp (z A G g s B Z J V x n _ E P T W fun u s1z L K I=>?_);cases x with
 |true=>
  rw[if_pos rfl] at e |-
  exact M A G u s1z L n J V d Z' Q E P I e fun gb j q v i H r=>h gb j q v (K.trans i) H r
 |false=>
  rw[if_neg (by simp)] at e |-
  exact Y A G u s1z L n J V d Z' Q E P I e fun gb j q v i H r=>h gb j q v (K.trans i) H r
end
end
section
section
variable {c:Cx}{k:Nat}{S:Sg}{env:Env}{g:Heap}{s:Ad}{B:List Addr}{Z:Mu}{fs:List (Addr×Hd)}{V:Sl}
structure UpL (L:Addr)(m:Str->Option Ac)(h h':Heap):Prop where
 up:∀b o,b≠L->h.get? b=some o->h'.get? b=some o
 ns:h'.Ns L m
theorem UpL.liv {L:Addr}{m m':Str->Option Ac}{h h':Heap}(u:UpL L m h h')(b:h.Ns L m'){a:Addr}{o:Obj}(e:h.get? a=some o):∃o',h'.get? a=some o':=by
 by_cases q:a=L
 ·subst q;refine exe3 u.ns fun o' _ _ w=>?_;have K:=w.1;exact⟨o',K⟩
 ·exact⟨o,u.up _ _ q e⟩
theorem Ns.dict {h:Heap}{L:Addr}{m:Str->Option Ac}(n:h.Ns L m):∃o w ep,h.get? L=some o/\o.data=.dict w ep:=n.elim fun o k=>k.elim fun w k=>k.elim fun ep k=>⟨o,w,ep,k.1,k.2.1⟩
theorem Jj {h:Heap}{L a:Addr}{m:Str->Option Ac}{o:Obj}(n:h.Ns L m)(e:h.get? a=some o)(d:∀w f,o.data≠.dict w f):a≠L:=by
 rintro rfl;refine exe3 (Ns.dict n) fun l w f c=>?_;obtain⟨K,b⟩:=c;rw[e] at K;cases K;exact d _ _ b
theorem FSt.growL {L:Addr}{m:Str->Option Ac}(F:FSt c g s B Z ((L,.ns m)::fs)){s':Ad}(u:UpL L m s.heap s'.heap)(Y:Lf s'.gens):FSt c (Mine.grow g s.heap s'.heap) s' B Z ((L,.ns m)::fs):=by
 refine Aa fun X=>?_;obtain⟨(K:s.heap.Ns L m),n,d⟩:=F.fr _ (.head _);refine X ?_;have A:Up g (Mine.grow g s.heap s'.heap):=fun b o e=>by
  unfold Mine.grow;rw[Cw,if_pos (by simp[e])];exact u.up b o (fun q=>by rw[q] at e;rw[n] at e;cases e) (F.keep _ _ e)
 refine⟨Ajx,Y,F.len,fun i o a H M=>?_,fun i a U O=>((F.dead i a U O).elim fun o e=>⟨o,A _ _ e⟩),F.nd,fun a M=>((F.liv a M).elim fun o e=>⟨o,u.up a o (fun q=>d (q▸M)) e⟩),fun q hq=>?_,F.fnd,F.top.up A,fun q hq=>?_,F.tnd⟩
 ·obtain⟨U,O⟩:=F.mu i o a H M;obtain⟨x,R⟩:=O.live;have W:a≠L:=fun q=>d (q▸Bo M);exact⟨L3 U R,O.up A fun x e=>u.up a x W e⟩
 ·obtain⟨U,O,C⟩:=F.fr q hq;obtain⟨o,e⟩:=U.live;rcases Av.mp hq with rfl|hq'
  ·exact⟨u.ns,L3 O e,C⟩
  ·have W:q.1≠L:=fun e=>by
    have:=F.fnd;simp only[qk,C4] at this;exact this.1 (Bj.mpr ⟨q,hq',e⟩)
   exact⟨U.at fun o e=>u.up _ o W e,L3 O e,C⟩
 ·refine Aa fun z=>?_;obtain⟨U,ps,O,C⟩:=F.tab q hq;refine z ?_;have W:q.tab≠L:=Jj K O (fun w f e=>by cases e);exact⟨L3 U O,ps,u.up _ _ W O,C.up A⟩
theorem St.evL (T:St c S env g s B Z fs V){m:Str->Option Ac}(z:s.heap.Ns env.locals m){h':Heap}(u:UpL env.locals m s.heap h')(tk:Nat):
  St c S env (Mine.grow g s.heap h') {s with heap:=h',toks:=tk} B Z fs V/\Ev g s B (Mine.grow g s.heap h') {s with heap:=h',toks:=tk} B:=by
 refine Aa fun G=>?_;obtain⟨mz,F,_⟩:=T.fst;have e:m=mz:=by funext x;exact z.agree (F.fr _ (.head _)).1 x
 subst e;refine G ?_;have N:FSt c (Mine.grow g s.heap h') {s with heap:=h',toks:=tk} B Z ((env.locals,.ns m)::fs):=F.growL (s':={s with heap:=h',toks:=tk}) u F.bare;have n:=(F.fr _ (.head _)).2.1;have A:Up g (Mine.grow g s.heap h'):=fun b o e=>by
  unfold Mine.grow;rw[Cw,if_pos (by simp[e])];exact u.up b o (fun q=>by rw[q] at e;rw[n] at e;cases e) (F.keep _ _ e)
 refine⟨T.frame N A (Bi _) (fun m' h=>?_) fun a o U O=>?_,Ev.same A rfl⟩
 ·funext x;exact h.agree z x
 ·refine Aa fun C=>?_;obtain⟨J,e,d⟩:=id O;refine C ?_;have W:a≠env.locals:=Jj z e (fun w f q=>by rw[d] at q;cases q);exact⟨L3 U e,J,u.up _ _ W e,d⟩
noncomputable def Vf (h:Heap)(L:Addr):List (Addr×Obj):=(Gb h.objs.size).filterMap fun b=>if b=L then none else(h.get? b).map fun o=>(b,o)
theorem M1 {h:Heap}{L b:Addr}{o:Obj}(Y:b≠L)(e:h.get? b=some o):(b,o)∈Vf h L:=by
 unfold Vf;rw[Ig];exact⟨b,by simpa using D5 e,by simp[Y,e]⟩
theorem Afu {h:Heap}{L:Addr}{p:Addr×Obj}(I:p∈Vf h L):h.get? p.1=some p.2/\p.1≠L:=by
 unfold Vf at I;rw[Ig] at I;obtain⟨b,_,e⟩:=I;split at e
 ·exact A2 e
 ·rename_i W;refine E4 e fun o y z=>?_;subst z;exact⟨y,W⟩
noncomputable abbrev e0:Heap:={}
theorem Ao9 (b:Addr):e0.get? b=none:=by
 cases e:e0.get? b with
 |none=>rfl
 |some o=>have:=D5 e;simp[e0] at this
theorem St.ns (T:St c S env g s B Z fs V):∃m,s.heap.Ns env.locals m:=T.fst.elim fun m k=>⟨m,(k.1.fr _ (.head _)).1⟩
theorem fr0 {h:Heap}{L:Addr}{m:Str->Option Ac}(n:h.Ns L m):Fr e0 L h m:=⟨n,fun b o e=>(by rw[Ao9] at e;cases e),Cb _⟩
theorem Xf {h:Heap}{L:Addr}:News e0 L h (Vf h L):=fun p I=>⟨(Afu I).1,(Afu I).2,Ao9 _⟩
theorem Si {h h':Heap}{L:Addr}{m:Str->Option Ac}{n:List (Addr×Obj)}(F:Fr e0 L h' m)(N:News e0 L h' n)(l:∀p∈Vf h L,p∈n):UpL L m h h':=
 ⟨fun b o Y e=>(N _ (l _ (M1 Y e))).1,F.ns⟩
noncomputable def E0 (Z:Mu):MV->Option (List PV)
 | .p (.list l)=>some l
 | .mu i=>match Z[i]? with
  |some (some (.lst l))=>some l
  |some (some (.wl l _))=>some l
  |_=>none
 |_=>none
noncomputable def Lq (Z:Mu)(i:Nat):Option (List PV):=match Z[i]? with
 |some (some (.lst l))=>some l
 |_=>none
theorem Jx {Z:Mu}{i:Nat}{l:List PV}(h:Lq Z i=some l):Z[i]?=some (some (.lst l)):=by
 unfold Lq at h;generalize Z[i]?=q at h |-
 cases q with
 |none=>exact A2 h
 |some o=>cases o with
  |none=>exact A2 h
  |some o=>cases o with
   |lst l=>exact congrArg (fun l=>some (some (MO.lst l))) (Af h)
   |_=>exact A2 h
theorem K4 {Z:Mu}{i:Nat}{l:List PV}(h:Z[i]?=some (some (.lst l))):Lq Z i=some l:=by unfold Lq;rw[h]
theorem FSt.lst (F:FSt c g s B Z fs){x:MV}{v:Ac}(r:VR g B x v){l:List PV}(e:E0 Z x=some l):∃a vs,v=.ref a/\s.heap.IsList a vs.toArray/\PRs g l vs:=by
 replace r:=r.inv;cases x with
 |p y=>
  replace r:=r.inv;cases y with
  |list m=>obtain⟨a,vs,n,f,t,r⟩:=r;exact exi2 a vs ⟨f,Ux (F.keep _ _ t),Af e▸r⟩
  |_=>exact A2 e
 |mu i=>
  obtain⟨a,f,M⟩:=r;have h:∀o,Z[i]?=some (some o)->MR g s.heap a o:=fun o H=>(F.mu _ _ _ H M).2;refine Exists.intro a ?_;dsimp only[E0] at e;generalize Z[i]?=q at e h;cases q with
  |none=>exact A2 e
  |some q=>cases q with
   |none=>exact A2 e
   |some o=>cases o with
    |lst j=>obtain⟨vs,n,t,r⟩:=(h _ rfl).l;exact⟨vs,f,t.isList,Af e▸r⟩
    |wl j o=>obtain⟨vs,t,r⟩:=(h _ rfl).w;exact⟨vs,f,⟨_,t.1,t.2⟩,Af e▸r⟩
    |dct d=>exact A2 e
 |tup=>exact A2 e
theorem St.lst (T:St c S env g s B Z fs V){x:MV}{v:Ac}(r:VR g B x v){l:List PV}(e:E0 Z x=some l):∃a vs,v=.ref a/\s.heap.IsList a vs.toArray/\PRs g l vs:=
 T.fst.elim fun _ k=>k.1.lst r e
theorem KV.tk {r:PV}{Z':Mu}{d:MV}{Q:Ac->Ad->Prop}(h:KV c S env g s B Z' fs V d Q)(T:St c S env g s B Z fs V)(e:some (MV.p r,Z)=some (d,Z')){w:Ac}(p:PR g r w)(tk:Nat):Q w {s with toks:=tk}:=
 h.cast e g _ B _ (T.tk tk) (T.toks tk) (.p p)
theorem KV.sm {r:PV}{Z':Mu}{d:MV}{Q:Ac->Ad->Prop}(h:KV c S env g s B Z' fs V d Q)(T:St c S env g s B Z fs V)(e:some (MV.p r,Z)=some (d,Z')){w:Ac}(p:PR g r w):Q w s:=
 h.cast e g _ B _ (Ev.refl _ _ _) T (.p p)
theorem Atx {t:Ac->Sem Ac}{f:MV->Mu->Option (MV×Mu)}(h:∀x Z y,f x Z=some y->∃a,x=.p (.int a))
  (H:∀{A:Bs}{s:Ad}{Q E:Ac->Ad->Prop}{a:Int}{u:Tok}{Z:Mu}{y:MV×Mu},f (.p (.int a)) Z=some y->
   (∀{r:PV}{w:Ac},some (MV.p r,Z)=some y->(∀g,PR g r w)->∀tk,Q w {s with toks:=tk})->A1 c.M A (t (.int a u)) Q E s):O1 c k t f:=fun S A G g s B Z J V x v d Z' Q E P T r e X=>by
 obtain⟨a,rfl⟩:=h x Z _ e;obtain⟨u,rfl⟩:=r.pl;exact H e fun e p tk=>X.tk T e (p g) tk
theorem A3j {t:Ac->Ac->Sem Ac}{f:MV->MV->Mu->Option (MV×Mu)}(h:∀x y Z z,f x y Z=some z->∃a b,x=.p (.int a)/\y=.p (.int b))
  (H:∀{A:Bs}{s:Ad}{Q E:Ac->Ad->Prop}{a b:Int}{u v:Tok}{Z:Mu}{y:MV×Mu},f (.p (.int a)) (.p (.int b)) Z=some y->
   (∀{r:PV}{w:Ac},some (MV.p r,Z)=some y->(∀g,PR g r w)->∀tk,Q w {s with toks:=tk})->A1 c.M A (t (.int a u) (.int b v)) Q E s):O2 c k t f:=fun S A G g s B Z J V x y v w d Z' Q E P T r Y e X=>by
 refine exe2 (h x y Z _ e) fun a b o=>?_;obtain⟨rfl,rfl⟩:=o;obtain⟨u,rfl⟩:=r.pl;obtain⟨i,rfl⟩:=Y.pl;exact H e fun e p tk=>X.tk T e (p g) tk
noncomputable def i2 (f:Int->Int->Option Int):MV->MV->Mu->Option (MV×Mu)
 | .p (.int a),.p (.int b),Z=>(f a b).map fun z=>(.p (.int z),Z)
 |_,_,_=>none
theorem Al4 {t:Ac->Ac->Sem Ac}{f:Int->Int->Option Int}
  (h:∀(A:Bs)(E:Ac->Ad->Prop)(s:Ad)(a b:Int)(u v:Tok)(z:Int)(Q:Ac->Ad->Prop),f a b=some z->(∀tk w,Q (.int z w) {s with toks:=tk})->A1 c.M A (t (.int a u) (.int b v)) Q E s):O2 c k t (i2 f):=
 A3j (fun x y Z z e=>by
 cases x with
 |p x=>cases x with
  |int a=>cases y with
   |p y=>cases y with
    |int b=>exact exi2 a b ⟨rfl,rfl⟩
    |_=>exact A2 e
   |_=>exact A2 e
  |_=>exact A2 e
 |_=>exact A2 e) fun e q=>Ur e fun z hz e=>h _ _ _ _ _ _ _ z _ hz fun tk w=>q e (fun _=>.int _ _) tk
noncomputable def Us (a b:Int):Option Int:=some (a-b)
noncomputable def A1m (a b:Int):Option Int:=if a.natAbs<big/\b.natAbs<big then some (a*b) else none
noncomputable def Nu (a b:Int):Option Int:=if b≠0/\b.natAbs<big then some (a.fdiv b) else none
noncomputable def Jp (a b:Int):Option Int:=if b≠0 then some (a.fmod b) else none
noncomputable def Acr (a b:Int):Option Int:=if a.natAbs<big/\0<=b/\b<=1000 then some (a^b.toNat) else none
noncomputable def Anu (a b:Int):Option Int:=if a.natAbs<big/\0<=b/\b<=100000 then some (a*2^b.toNat) else none
noncomputable def Asb (a b:Int):Option Int:=if 0<=b then some (a.fdiv (2^b.toNat)) else none
noncomputable def Bbg (a b:Int):Option Int:=some (Aef a b)
theorem Kn:O2 c k (Lv .Sub) (i2 Us):=Al4 fun A E s a b u v z Q e h=>by cases e;exact sub_int (h _ _)
theorem Xg {a b:Int}(h:b.natAbs<big):Adj a b=false:=by
 unfold Adj;simp only[U9,decide_eq_false_iff_not];left;split
 ·exact(by decide)
 ·rename_i Y;have I:b.natAbs≠0:=by simpa using Y
  have:b.natAbs.log2<1000:=by
   rw[Agd I];exact h
  exact C0 (Fa (Ah (Ai this) (by decide)))
theorem Nn:O2 c k (Lv .FloorDiv) (i2 Nu):=Al4 fun A E s a b u v z Q e h=>by
 unfold Nu at e;split at e
 ·rename_i q;cases e;exact floordiv_int q.1 (h _ _) (.inl (Xg q.2))
 ·exact A2 e
theorem H8:O2 c k (Lv .Mod) (i2 Jp):=Al4 fun A E s a b u v z Q e h=>by
 unfold Jp at e;split at e
 ·rename_i q;cases e;exact mod_int' q (h _ _)
 ·exact A2 e
theorem Agl:O2 c k (Lv .Pow) (i2 Acr):=Al4 fun A E s a b u v z Q e h=>by
 unfold Acr at e;split at e
 ·rename_i q;cases e;refine pow_int q.2.1 ?_ (h _ _);have U:=Ws q.1;have O:(Bu a:Int)<=1000:=(Amh U)
  calc (Bu a:Int)*b<=1000*b:=Jk O q.2.1
   _<=1000*1000:=by have:=q.2.2;lia
   _<=2^27:=by decide
 ·exact A2 e
theorem Agm:O2 c k (Lv .LShift) (i2 Anu):=Al4 fun A E s a b u v z Q e h=>by
 unfold Anu at e;split at e
 ·rename_i q;cases e;refine lshift_int q.2.1 ?_ (h _ _);have U:=Ws q.1;have:=q.2.2;lia
 ·exact A2 e
theorem Agn:O2 c k (Lv .RShift) (i2 Asb):=Al4 fun A E s a b u v z Q e h=>by
 unfold Asb at e;split at e
 ·rename_i q;cases e;exact rshift_int q (h _ _)
 ·exact A2 e
theorem Azl:O2 c k (Lv .BitXor) (i2 Bbg):=Al4 fun A E s a b u v z Q e h=>by cases e;exact xor_int (h _ _)
noncomputable def A9o (x y:MV)(Z:Mu):Option (MV×Mu):=(E0 Z x).bind fun l=>(E0 Z y).bind fun j=>if l.length+j.length<=16777216 then some (.p (.list (l++j)),Z) else none
noncomputable def Fg (x y:MV)(Z:Mu):Option (MV×Mu):=match x with
 | .p q=>(match q with
  | .int a=>y.i?.map fun b=>(.p (.int (a+b)),Z)
  | .str a=>y.s?.bind fun b=>if a.length+b.length<=16777216 then some (.p (.str (a++b)),Z) else none
  | .bytes a=>y.b?.bind fun b=>if a.size+b.size<=16777216 then some (.p (.bytes (a++b)),Z) else none
  |q=>A9o (.p q) y Z)
 |x=>A9o x y Z
theorem A3l {x y:MV}{v w:Ac}{A:Bs}{Q E:Ac->Ad->Prop}{d:MV}{Z':Mu}(T:St c S env g s B Z fs V)(n:VR g B x v)(H:VR g B y w)
  (e:((E0 Z x).bind fun l=>(E0 Z y).bind fun j=>if l.length+j.length<=16777216 then some (MV.p (.list (l++j)),Z) else none)=some (d,Z'))(X:KV c S env g s B Z' fs V d Q):A1 c.M A (Lv .Add v w) Q E s:=
 Aw e fun l U e=>Aw e fun j O e=>by
  refine exe2 (T.lst n U) fun a vs q=>?_;obtain⟨rfl,f,D⟩:=q;refine exe2 (T.lst H O) fun b ws o=>?_;obtain⟨rfl,t,r⟩:=o;obtain⟨m,z⟩:=T.ns;refine add_lists (fr0 z) Xf f t (fun h' F N=>?_) (by show vs.length+ws.length<=_;rw[D.length,r.length];exact(Am e).1);have R:=T.evL z (Si F N fun p I=>.tail _ I) s.toks;exact X.cast (Am e).2 _ _ B _ R.2 R.1 (.p (.list (vs:=vs++ws) (Nv Ge (N _ (.head _)).1) ((D.append r).up R.2.up)))
theorem D2:O2 c k (Lv .Add) Fg:=fun S A G g s B Z J V x y v w d Z' Q E _ T n H e X=>by
 cases x with
 |p x=>cases x with
  |int a=>exact Ur e fun b i e=>by rw[MV.i_i i] at H;obtain⟨t,rfl⟩:=n.pl;obtain⟨u,rfl⟩:=H.pl;exact add_int (X.tk T e (.int _ _) _)
  |str a=>exact Aw e fun b i e=>by rw[MV.s_i i] at H;obtain⟨t,rfl⟩:=n.pl;obtain⟨u,rfl⟩:=H.pl;exact add_str (fun f tk=>X.tk T (Am e).2 (.str _ _) _) (Am e).1
  |bytes a=>exact Aw e fun b i e=>by rw[MV.b_i i] at H;obtain⟨t,rfl⟩:=n.pl;obtain⟨u,rfl⟩:=H.pl;exact KBy.add_bytes (Am e).1 (fun f tk=>X.tk T (Am e).2 (.bytes _ _) _)
  |_=>exact A3l T n H e X
 |_=>exact A3l T n H e X
noncomputable def Sa (x y:MV)(Z:Mu):Option (MV×Mu):=y.i?.bind fun b=>x.p?.bind fun x=>match x with
 | .int a=>(A1m a b).map fun z=>(.p (.int z),Z)
 | .str a=>if a.length=1/\ -1000000<=b/\b<=1000000 then some (.p (.str (Txt.mul a b)),Z) else none
 | .bytes a=>if a.toList≠[]/\ -1000000<=b/\b<=1000000/\a.size<=16 then some (.p (.bytes (Bb b.toNat a.toList).flatten.toArray),Z) else none
 |_=>none
end
end
section
section
variable {c:Cx}{k:Nat}{S:Sg}{env:Env}{g:Heap}{s:Ad}{B:List Addr}{Z:Mu}{fs:List (Addr×Hd)}{V:Sl}
theorem Abz {h:Heap}{L D:Addr}(hD:D≠L)(O:∀p∈Vf h L,p.1<D):h.get? D=none:=by
 cases e:h.get? D with
 |none=>rfl
 |some o=>exact absurd (O _ (M1 hD e)) (Em _)
theorem Bcc {prog:Ia}{w:F7}{A:Bs}{E:Ac->Ad->Prop}{s:Ad}{Q:Ac->Ad->Prop}{a:Array UInt8}{b:Int}{g i:Tok}(q:a.toList≠[]/\ -1000000<=b/\b<=1000000/\a.size<=16)
  (h:∀f tk,Q (.bytes (Bb b.toNat a.toList).flatten.toArray f) {s with toks:=tk}):A1 (model prog w) A (Lv .Mult (.bytes a g) (.int b i)) Q E s:=by
 have h':=bytes_mul_any (prog:=prog) (w:=w) (A:=A) (E:=E) (s:=s) (b:=a.toList) (n:=b) (t:=g) (u:=i) (Q:=Q) q.1 (by lia) (Fh q.2.2.1 (by decide)) (q.2.2.2) h;rw[Array.toArray_toList] at h';exact h'
theorem My:O2 c k (Lv .Mult) Sa:=fun S A G g s B Z J V x y v w d Z' Q E _ T n H e X=>by
 refine Aw e fun b i e=>Aw e fun q eq e=>?_;rw[MV.i_i i] at H;rw[MV.p_i eq] at n;obtain⟨u,rfl⟩:=H.pl;cases q with
 |int a=>
  obtain⟨t,rfl⟩:=n.pl;exact Ur e fun z hz e=>by
   exact mul_int (X.tk T e (Af (Am hz).2▸.int _ _) _) (IntMulOk.of_bits (Ab (Ws (Am hz).1.1) (by decide)) (Ab (Ws (Am hz).1.2) (by decide)))
 |str a=>obtain⟨t,rfl⟩:=n.pl;exact SB.mul (mulOk_of 1 1000000 (Aj ((Am e).1).1) ((Am e).1).2.2 (Fh (by decide) ((Am e).1).2.1) (by decide) (by decide)) (fun f tk=>X.tk T (Am e).2 (.str _ _) _)
 |bytes a=>obtain⟨t,rfl⟩:=n.pl;exact Bcc (Am e).1 (fun f tk=>X.tk T (Am e).2 (.bytes _ _) _)
 |_=>exact A2 e
noncomputable def Ku:MV->Mu->Option (MV×Mu)
 | .p (.int a),Z=>some (.p (.int (-a)),Z)
 |_,_=>none
theorem I2:O1 c k (unaryOp .USub) Ku:=Atx (fun x Z y e=>by
 cases x with
 |p x=>cases x with
  |int a=>exact⟨a,rfl⟩
  |_=>exact A2 e
 |_=>exact A2 e) fun e q=>neg_int (q e (fun _=>.int _ _) _)
noncomputable def A07:MV->Mu->Option (MV×Mu)
 | .p (.int a),Z=>some (.p (.int (-a-1)),Z)
 |_,_=>none
theorem Al3:O1 c k (unaryOp .Invert) A07:=Atx (fun x Z y e=>by
 cases x with
 |p x=>cases x with
  |int a=>exact⟨a,rfl⟩
  |_=>exact A2 e
 |_=>exact A2 e) fun e q=>invert_int (q e (fun _=>.int _ _) _)
noncomputable def ci (f:Int->Int->Bool):MV->MV->Mu->Option (MV×Mu)
 | .p (.int a),.p (.int b),Z=>some (.p (.bool (f a b)),Z)
 |_,_,_=>none
theorem A3i {t:Ac->Ac->Sem Ac}{f:Int->Int->Bool}
  (h:∀(A:Bs)(E:Ac->Ad->Prop)(s:Ad)(a b:Int)(u v:Tok)(Q:Ac->Ad->Prop),Q (.bool (f a b)) s->A1 c.M A (t (.int a u) (.int b v)) Q E s):O2 c k t (ci f):=
 A3j (fun x y Z z e=>by
 cases x with
 |p x=>cases x with
  |int a=>cases y with
   |p y=>cases y with
    |int b=>exact exi2 a b ⟨rfl,rfl⟩
    |_=>exact A2 e
   |_=>exact A2 e
  |_=>exact A2 e
 |_=>exact A2 e) fun{A s Q E a b u v Z y} e q=>h A E s a b u v Q (q e (fun _=>.bool _) s.toks)
theorem A3k:O2 c k (Gu .Lt) (ci fun a b=>decide (a<b)):=A3i fun A E s a b u v Q h=>lt_int h
theorem A9k:O2 c k (Gu .LtE) (ci fun a b=>decide (a<=b)):=A3i fun A E s a b u v Q h=>le_int h
mutual
noncomputable def PV.py:PV->As5
 | .none=>.none
 | .bool b=>.bool b
 | .int i=>.int i
 | .str x=>.str x
 | .bytes _=>.none
 | .typ _=>.none
 | .fn _=>.none
 | .tuple l=>.tuple (PV.pys l)
 | .list l=>.list (PV.pys l)
noncomputable def PV.pys:List PV->List As5
 |[]=>[]
 |x::r=>PV.py x::PV.pys r
end
theorem Ap8:∀l:List PV,PV.pys l=l.map PV.py
 |[]=>rfl
 |x::r=>congrArg (PV.py x:: ·) (Ap8 r)
noncomputable def okF:Nat->PV->Bool
 |_,.none=>true
 |_,.bool _=>true
 |_,.int _=>true
 |_,.str x=>PyData.strOk x
 |_,.bytes _=>false
 |_,.typ _=>false
 |_,.fn _=>false
 |0,.tuple _=>false
 |0,.list _=>false
 |n+1,.tuple l=>l.all (okF n)
 |n+1,.list l=>l.all (okF n)
theorem Afv {h:Heap}(n:Nat)(x:PV)(v:Ac)(R:okF n x=true)(r:PR h x v)(H:∀l,(x=.tuple l\/x=.list l)->(∃as,As6 h v x.py as)/\x.py.canLay0=true/\x.py.depth<=n):(∃as,As6 h v x.py as)/\x.py.canLay0=true/\x.py.depth<=n:=by
 replace r:=r.inv;cases x with
 |none=>rw[show v=.none from r];exact⟨⟨[],.none⟩,rfl,Cb _⟩
 |bool b=>rw[show v=.bool b from r];exact⟨⟨[],.bool _⟩,rfl,Cb _⟩
 |int i=>obtain⟨t,e⟩:=r;rw[e];exact⟨⟨[],.int _ _⟩,rfl,Cb _⟩
 |str z=>obtain⟨t,e⟩:=r;rw[e];exact⟨⟨[],.str _ _⟩,by cases n<;>exact R,Cb _⟩
 |tuple l=>exact H l (.inl rfl)
 |list l=>exact H l (.inr rfl)
 |_=>cases n<;>exact nomatch (show false=true from R)
theorem Rm {h:Heap}:∀(n:Nat) (x:PV) (v:Ac),okF n x=true->PR h x v->(∃as,As6 h v x.py as)/\x.py.canLay0=true/\x.py.depth<=n:=by
 intro n;induction n with
 |zero=>exact fun x v R r=>Afv 0 x v R r fun l q=>by rcases q with rfl|rfl<;>exact nomatch (show false=true from R)
 |succ n J=>
  have d:∀(l:List PV) (vs:List Ac),l.all (okF n)=true->PRs h l vs->(∃as,ReadsAll h vs (PV.pys l) as)/\Gs (PV.pys l)=true/\Iu (PV.pys l)<=n:=by
   intro l;induction l with
   |nil=>intro vs _ r;rw[show vs=[] from r.inv];exact⟨⟨[],.nil⟩,rfl,Cb _⟩
   |cons x l i=>
    intro vs N r;refine Aa fun P=>?_;refine exe2 r.inv fun v ws f=>?_;obtain⟨e,D,z⟩:=f;refine P ?_;rw[e];rw[Fw,A0] at N;refine Aa fun y=>?_;obtain⟨⟨as,U⟩,O⟩:=J x _ N.1 D;obtain⟨⟨g,u⟩,B⟩:=i _ N.2 z;exact y ⟨⟨_,.cons U u⟩,by show(_&&_)=true;rw[O.1,B.1];rfl,A24.mpr ⟨O.2,B.2⟩⟩
  refine fun x v R r=>Afv _ x v R r fun l q=>?_;rcases q with rfl|rfl
  ·refine Aa fun w=>?_;refine exe2 r.inv fun a vs F=>?_;obtain⟨rfl,⟨o,e,c,m,E⟩,r⟩:=F;obtain⟨⟨as,U⟩,O⟩:=d _ _ R r;exact w ⟨⟨_,.tuple e c E U⟩,O.1,A3 O.2⟩
  ·refine Aa fun b=>?_;refine exe3 r.inv fun a vs m H=>?_;obtain rfl:=H.1;have t:=H.2.1;have r:=H.2.2;obtain⟨⟨as,U⟩,O⟩:=d _ _ R r;obtain⟨o,e,c,m,E⟩:=Ux t;refine b ?_;exact⟨⟨_,.list e c E U⟩,O.1,A3 O.2⟩
end
end
section
section
variable {c:Cx}{k:Nat}{S:Sg}{env:Env}{g:Heap}{s:Ad}{B:List Addr}{Z:Mu}{fs:List (Addr×Hd)}{V:Sl}
noncomputable def S3 (Z:Mu):MV->Option PV
 | .p x=>some x
 | .mu i=>match Z[i]? with
  |some (some (.lst l))=>some (.list l)
  |_=>none
 | .tup _=>none
theorem St.mo (T:St c S env g s B Z fs V){i:Nat}{a:Addr}{o:MO}(M:B[i]?=some a)(H:Z[i]?=some (some o)):g.get? a=none/\MR g s.heap a o:=T.fst.elim fun _ k=>k.1.mu _ _ _ H M
theorem St.rd (T:St c S env g s B Z fs V){x:MV}{v:Ac}(r:VR g B x v){y:PV}(e:S3 Z x=some y):PR s.heap y v:=by
 replace r:=r.inv;cases x with
 |p x=>exact Af e▸PR.up T.keep r
 |mu i=>
  obtain⟨a,rfl,M⟩:=r;have z:∀o,Z[i]?=some (some o)->MR g s.heap a o:=fun o H=>(T.mo M H).2;dsimp only[S3] at e;generalize Z[i]?=q at e z;cases q with
  |none=>exact A2 e
  |some q=>cases q with
   |none=>exact A2 e
   |some o=>cases o with
    |lst l=>obtain⟨vs,n,t,r⟩:=(z _ rfl).l;exact Af e▸.list t (r.up T.keep)
    |_=>exact A2 e
 |tup l=>exact A2 e
noncomputable def eqP:PV->PV->Option Bool
 | .int a,.int b=>some (a==b)
 | .str a,.str b=>some (a==b)
 | .bool a,.bool b=>some (a==b)
 | .bytes a,.bytes b=>some (a.toList==b.toList)
 |x,y=>if okF 8 x=true/\okF 8 y=true then some (x.py.eqv y.py) else none
noncomputable def eqF (x y:MV)(Z:Mu):Option (MV×Mu):=(S3 Z x).bind fun p=>(S3 Z y).bind fun q=>(eqP p q).map fun b=>(.p (.bool b),Z)
noncomputable def neF (x y:MV)(Z:Mu):Option (MV×Mu):=(S3 Z x).bind fun p=>(S3 Z y).bind fun q=>(eqP p q).map fun b=>(.p (.bool !b),Z)
theorem Ava {A:Bs}{fl:List (Addr×HK)}{a b:Nat}(P:AOk A k fl)(hk:1<=k)(h:a<=8):A.units+min a b<cLine:=
 Ah (Ar (Ab (G5 _ _) (Ab h (Ab (by decide:8<=10*1) (Au 10 hk)))) _) P.units
theorem eqK {P:Ac->Ac->Prop}{b:Bool}(H:∀{a c:Int} {t u},(a==c)=b->P (.int a t) (.int c u))(l:∀{a c:Str} {t u},(a==c)=b->P (.str a t) (.str c u))(Y:∀{a c:Bool},(a==c)=b->P (.bool a) (.bool c))
  (T:∀{a c:Array UInt8} {t u},(a.toList==c.toList)=b->P (.bytes a t) (.bytes c u))(j:∀{v w:Ac}{x y:As5} {as g},As6 s.heap v x as->As6 s.heap w y g->x.canLay0=true->y.canLay0=true->x.depth<=8->x.eqv y=b->P v w)
  {p q:PV}{v w:Ac}(e:eqP p q=some b)(D:PR s.heap p v)(z:PR s.heap q w):P v w:=by
 have L:(if okF 8 p=true/\okF 8 q=true then some (p.py.eqv q.py) else none)=some b->P v w:=fun e=>by
  have k:=(Am e).1;obtain⟨⟨as,U⟩,O⟩:=Rm 8 p v k.1 D;refine Ade (fun f B=>?_) (Rm 8 q w k.2 z);refine Ks f fun g d=>?_;exact j U d O.1 B.1 O.2 (Af (Am e).2)
 cases p with
 |int a=>cases q with
  |int c=>obtain⟨t,rfl⟩:=D.inv;obtain⟨u,rfl⟩:=z.inv;exact H (Af e)
  |_=>exact L e
 |str a=>cases q with
  |str c=>obtain⟨t,rfl⟩:=D.inv;obtain⟨u,rfl⟩:=z.inv;exact l (Af e)
  |_=>exact L e
 |bool a=>cases q with
  |bool c=>rw[show v=_ from D.inv,show w=_ from z.inv];exact Y (Af e)
  |_=>exact L e
 |bytes a=>cases q with
  |bytes c=>obtain⟨t,rfl⟩:=D.inv;obtain⟨u,rfl⟩:=z.inv;exact T (Af e)
  |_=>exact L e
 |_=>exact L e
theorem A5x {A:Bs}{fl:List (Addr×HK)}{E:Ac->Ad->Prop}{Q:Ac->Ad->Prop}{p q:PV}{v w:Ac}{b:Bool}(l:AOk A k fl)(hk:1<=k)(e:eqP p q=some b)(D:PR s.heap p v)(z:PR s.heap q w)(X:Q (.bool b) s):A1 c.M A (Gu .Eq v w) Q E s:=
 eqK (P:=fun v w=>A1 c.M A (Gu .Eq v w) Q E s) (fun h=>eq_int (h▸X)) (fun h=>eq_str (h▸X)) (fun h=>PyProof.Rows.eq_bool (h▸X)) (fun h=>eq_bytes (h▸X))
  (fun U u O B d h=>SeqAt.compareEq_reads U u O B (Ava l hk d) (h▸X)) e D z
theorem A6y {A:Bs}{fl:List (Addr×HK)}{E:Ac->Ad->Prop}{Q:Ac->Ad->Prop}{p q:PV}{v w:Ac}{b:Bool}(l:AOk A k fl)(hk:1<=k)(e:eqP p q=some b)(D:PR s.heap p v)(z:PR s.heap q w)(X:Q (.bool !b) s):A1 c.M A (Gu .NotEq v w) Q E s:=
 eqK (P:=fun v w=>A1 c.M A (Gu .NotEq v w) Q E s) (fun h=>ne_int (show Q (.bool !_) s from h▸X)) (fun h=>ne_str (show Q (.bool !_) s from h▸X)) (fun h=>PyProof.Rows.ne_bool (show Q (.bool !_) s from h▸X)) (fun h=>ne_bytes (show Q (.bool !_) s from h▸X))
  (fun U u O B d h=>SeqAt.compareNe_reads U u O B (Ava l hk d) (h▸X)) e D z
theorem Lm (hk:1<=k):O2 c k (Gu .Eq) eqF:=fun S A G g s B Z J V x y v w d Z' Q E P T n H e X=>Aw e fun p U e=>Aw e fun q O e=>Ur e fun b C e=>
 A5x P hk C (T.rd n U) (T.rd H O) (X.sm T e (.bool _))
theorem Aty (hk:1<=k):O2 c k (Gu .NotEq) neF:=fun S A G g s B Z J V x y v w d Z' Q E P T n H e X=>Aw e fun p U e=>Aw e fun q O e=>Ur e fun b C e=>
 A6y P hk C (T.rd n U) (T.rd H O) (X.sm T e (.bool _))
noncomputable def inP:PV->PV->Option Bool
 |x,.list l=>if okF 8 x=true/\l.all (okF 8)=true then some (l.any fun y=>y.py.eqv x.py) else none
 |x,.tuple l=>if okF 8 x=true/\l.all (okF 8)=true then some (l.any fun y=>y.py.eqv x.py) else none
 |_,_=>none
theorem Aa7 {h:Heap}{l:List PV}{vs:List Ac}(N:l.all (okF 8)=true)(r:PRs h l vs):(∃as,ReadsAll h vs (PV.pys l) as)/\Gs (PV.pys l)=true/\Iu (PV.pys l)<=8:=
 r.ind (P:=fun l vs=>l.all (okF 8)=true->(∃as,ReadsAll h vs (PV.pys l) as)/\Gs (PV.pys l)=true/\Iu (PV.pys l)<=8) (fun _=>⟨⟨[],.nil⟩,rfl,Cb _⟩) (fun D z J N=>by
  rw[Fw,A0] at N;refine Ade (fun a O=>?_) (Rm 8 _ _ N.1 D);obtain⟨as,U⟩:=a;refine Ade (fun b B=>?_) (J N.2);obtain⟨g,u⟩:=b;exact⟨⟨_,.cons U u⟩,by show(_&&_)=true;rw[O.1,B.1];rfl,A24.mpr ⟨O.2,B.2⟩⟩) N
theorem Ap7 (l:List PV)(x:PV):((PV.pys l).any fun y=>y.eqv x.py)=l.any fun y=>y.py.eqv x.py:=by rw[Ap8,Aar];rfl
theorem inK {P:Ac->Ac->Prop}{b:Bool}(N:∀{v w:Ac}{x:As5}{l:List As5} {as g},As6 s.heap w (.list l) g->As6 s.heap v x as->Gs l=true->x.canLay0=true->Iu l<=8->(l.any fun y=>y.eqv x)=b->P v w)
  (d:∀{v w:Ac}{x:As5}{l:List As5} {as g},As6 s.heap w (.tuple l) g->As6 s.heap v x as->Gs l=true->x.canLay0=true->Iu l<=8->(l.any fun y=>y.eqv x)=b->P v w)
  {p q:PV}{v w:Ac}(e:inP p q=some b)(D:PR s.heap p v)(z:PR s.heap q w):P v w:=by
 cases q with
 |list l=>
  refine Ks z.inv fun _ h=>?_;obtain⟨_,_,rfl,t,r⟩:=h;obtain⟨⟨as,U⟩,O⟩:=Rm 8 _ v (Am e).1.1 D;obtain⟨⟨g,u⟩,B⟩:=Aa7 (Am e).1.2 r;refine Ks (Ux t) fun o a=>?_;have K:=a.1;have c:=a.2.1;obtain⟨m,E⟩:=a.2.2;exact N (.list K c E u) U B.1 O.1 B.2 ((Ap7 l p).trans (Af (Am e).2))
 |tuple l=>
  refine Ks z.inv fun _ i=>?_;obtain⟨_,rfl,⟨o,K,c,m,E⟩,r⟩:=i;obtain⟨⟨as,U⟩,O⟩:=Rm 8 _ v (Am e).1.1 D;refine Ade (fun f B=>?_) (Aa7 (Am e).1.2 r);obtain⟨g,u⟩:=f;exact d (.tuple K c E u) U B.1 O.1 B.2 ((Ap7 l p).trans (Af (Am e).2))
 |_=>exact A2 e
theorem Aak {A:Bs}{fl:List (Addr×HK)}{a b:Nat}(P:AOk A k fl)(hk:1<=k)(h:a<=8):A.units+1+min a b<cLine:=
 Ah (by rw[Dj];exact Ar (Ab (Ar (Ab (G5 _ _) h) 1) (Ab (by decide:1+8<=10*1) (Au 10 hk))) _) P.units
theorem A6b {A:Bs}{fl:List (Addr×HK)}{E:Ac->Ad->Prop}{Q:Ac->Ad->Prop}{p q:PV}{v w:Ac}{b:Bool}(l:AOk A k fl)(hk:1<=k)(e:inP p q=some b)(D:PR s.heap p v)(z:PR s.heap q w)(X:Q (.bool b) s):A1 c.M A (Gu .In v w) Q E s:=
 inK (P:=fun v w=>A1 c.M A (Gu .In v w) Q E s) (fun u U B O d h=>SeqAt.in_list_reads u U B O (Aak l hk d) (h▸X)) (fun u U B O d h=>SeqAt.in_tuple_reads u U B O (Aak l hk d) (h▸X)) e D z
theorem A60 {A:Bs}{fl:List (Addr×HK)}{E:Ac->Ad->Prop}{Q:Ac->Ad->Prop}{p q:PV}{v w:Ac}{b:Bool}(l:AOk A k fl)(hk:1<=k)(e:inP p q=some b)(D:PR s.heap p v)(z:PR s.heap q w)(X:Q (.bool !b) s):A1 c.M A (Gu .NotIn v w) Q E s:=
 inK (P:=fun v w=>A1 c.M A (Gu .NotIn v w) Q E s) (fun u U B O d h=>SeqAt.notIn_list_reads u U B O (Aak l hk d) (h▸X)) (fun u U B O d h=>SeqAt.notIn_tuple_reads u U B O (Aak l hk d) (h▸X)) e D z
noncomputable def inF (x y:MV)(Z:Mu):Option (MV×Mu):=(S3 Z x).bind fun p=>(S3 Z y).bind fun q=>(inP p q).map fun b=>(.p (.bool b),Z)
noncomputable def niF (x y:MV)(Z:Mu):Option (MV×Mu):=(S3 Z x).bind fun p=>(S3 Z y).bind fun q=>(inP p q).map fun b=>(.p (.bool !b),Z)
theorem Aoj (hk:1<=k):O2 c k (Gu .In) inF:=fun S A G g s B Z J V x y v w d Z' Q E P T n H e X=>Aw e fun p U e=>Aw e fun q O e=>Ur e fun b C e=>
 A6b P hk C (T.rd n U) (T.rd H O) (X.sm T e (.bool _))
theorem Atz (hk:1<=k):O2 c k (Gu .NotIn) niF:=fun S A G g s B Z J V x y v w d Z' Q E P T n H e X=>Aw e fun p U e=>Aw e fun q O e=>Ur e fun b C e=>
 A60 P hk C (T.rd n U) (T.rd H O) (X.sm T e (.bool _))
noncomputable def KL (c:Cx)(S:Sg)(G:Env)(g:Heap)(s:Ad)(B:List Addr)(Z':Mu)(J:List (Addr×Hd))(V:Sl)(d:List MV)(Q:List Ac->Ad->Prop):Prop:=∀N s' I vs,Ev g s B N s' I->St c S G N s' I Z' J V->VRs N I d vs->Q vs s'
theorem KL.cast {c:Cx}{S:Sg}{G:Env}{g:Heap}{s:Ad}{B:List Addr}{Z Z':Mu}{J:List (Addr×Hd)}{V:Sl}{x d:List MV}{Q:List Ac->Ad->Prop}(h:KL c S G g s B Z' J V d Q)(e:some (x,Z)=some (d,Z')):KL c S G g s B Z J V x Q:=by cases e;exact h
noncomputable def SL (c:Cx)(k:Nat)(S:Sg)(w:List Expr)(f:LM):Prop:=
 ∀(pos:Pos)(A:Bs)(G:Env)(g:Heap)(s:Ad)(B:List Addr)(Z:Mu)(J:List (Addr×Hd))(V:Sl)(d:List MV)(Z':Mu)(Q:List Ac->Ad->Prop)(E:Ac->Ad->Prop),
  AOk A k ((G.locals,HK.ns)::J.map kd)->St c S G g s B Z J V->f V Z=some (d,Z')->
  KL c S G g s B Z' J V d Q->A1 c.M A (spliced (Aed pos (E7 w G))) Q E s
noncomputable def Bk:LM:=fun _ Z=>some ([],Z)
noncomputable def Ak (a:EM)(b:LM):LM:=fun V Z=>(a V Z).bind fun x=>(b V x.2).bind fun y=>some (x.1::y.1,y.2)
theorem Amu {a:EM}{b:LM}{V:Sl}{Z:Mu}{r:List MV×Mu}(e:Ak a b V Z=some r):∃x n y X,a V Z=some (x,n)/\b V n=some (y,X)/\r=(x::y,X):=by
 refine Aa fun C=>?_;refine Aw e fun z U e=>?_;refine Aw e fun c O e=>?_;cases e;refine C ?_;exact exi4 z.1 z.2 c.1 c.2 ⟨U,O,rfl⟩
theorem A5:SL c k S [] Bk:=by
 intro pos A G g s B Z J V d Z' Q E P T e X;replace X:=X.cast e;exact O7 (X g s B [] (Ev.refl _ _ _) T .nil)
theorem Azv {x:Expr}{r:List Expr}{a:EM}{b:LM}(M:SE c k S x a)(Y:SL c k S r b)(l:∀G,E7 (x::r) G=(false,eval x G)::E7 r G):SL c k S (x::r) (Ak a b):=by
 intro pos A G g s B Z J V d Z' Q E P T e X;refine Aa fun t=>?_;refine Ks (Amu e) fun f z=>?_;refine exe3 z fun n y m o=>?_;obtain⟨W,D,e⟩:=o;cases e;refine t ?_;rw[l];refine Jf (M A G g s B Z J V f n _ E P T W fun u s1z L v K I F=>?_);exact Y pos A G u s1z L n J V y _ _ E P I D fun gb j q vs i H h=>X gb j q _ (K.trans i) H (.cons (F.up i.up i.pre) h)
theorem FSt.newMu {L:Addr}{m:Str->Option Ac}(F:FSt c g s B Z ((L,.ns m)::fs)){s':Ad}(u:UpL L m s.heap s'.heap)(Y:Lf s'.gens){a:Addr}{o:MO}(K:s.heap.get? a=none)(j:MR g s'.heap a o):FSt c g s' (B++[a]) (Z++[some o]) ((L,.ns m)::fs):=by
 obtain⟨(E:s.heap.Ns L m),n,d⟩:=F.fr _ (.head _);have v:g.get? a=none:=by
  cases e:g.get? a with
  |none=>rfl
  |some x=>rw[F.keep _ _ e] at K;cases K
 have A:∀b o,s.heap.get? b=some o->b≠a:=fun b o e q=>by rw[q,K] at e;cases e
 refine⟨fun b o e=>u.up b o (fun q=>by rw[q] at e;rw[n] at e;cases e) (F.keep _ _ e),Y,by simp[F.len],fun i l a' H M=>?_,fun i a' H M=>?_,?_,?_,fun q hq=>?_,F.fnd,F.top,fun q hq=>?_,F.tnd⟩
 ·by_cases p:i<Z.length
  ·rw[Cz p] at H;replace M:=(Cz (F.len▸p))▸M;have k:=F.mu i l a' H M;have U:=k.1;have O:=k.2;have W:a'≠L:=fun q=>d (q▸Bo M);exact⟨U,O.up Up.rfl fun x e=>u.up a' x W e⟩
  ·have r:i=Z.length:=by
    have:=(Aq.mp H).1;simp at this;exact Eh (Ai this) (Cq p)
   subst r;rw[E8 (At _)] at H;rw[E8 (by rw[F.len];exact At _)] at M;simp[F.len] at H M;subst H M;exact⟨v,j⟩
 ·by_cases p:i<Z.length
  ·replace H:=(Cz p)▸H;replace M:=(Cz (F.len▸p))▸M;exact F.dead i a' H M
  ·have r:i=Z.length:=by
    have:=(Aq.mp H).1;simp at this;exact Eh (Ai this) (Cq p)
   subst r;replace H:=(E8 (At _))▸H;simp at H
 ·refine Hp.mpr ⟨F.nd,by simp,fun x R y T=>?_⟩;refine(A6.mp T).symm▸?_;rintro rfl;refine Ks (F.liv x R) fun l e=>?_;rw[K] at e;cases e
 ·intro b Y;rcases B6.mp Y with Y|Y
  ·refine Ks (F.liv b Y) fun l e=>?_;exact⟨l,u.up _ _ (fun q=>d (q▸Y)) e⟩
  ·rw[A6.mp Y];exact j.live
 ·refine Ade (fun U t=>?_) (F.fr q hq);obtain⟨O,C⟩:=t;refine Ks U.live fun l e=>?_;have G:q.1∉B++[a]:=by
   rw[B6,A6];rintro (h|h)
   ·exact C h
   ·exact A _ _ e h
  rcases Av.mp hq with rfl|hq'
  ·exact⟨u.ns,O,G⟩
  ·have W:q.1≠L:=fun e=>by
    have:=F.fnd;simp only[qk,C4] at this;exact this.1 (Bj.mpr ⟨q,hq',e⟩)
   exact⟨U.at fun o e=>u.up _ o W e,O,G⟩
 ·refine Ade (fun U D=>?_) (F.tab q hq);refine Ks D fun ps z=>?_;have O:=z.1;have W:q.tab≠L:=Jj E O (fun w f e=>by cases e);exact⟨U,ps,u.up _ _ W O,z.2⟩
end
end
section
section
variable {c:Cx}{k:Nat}{S:Sg}{env:Env}{g:Heap}{s:Ad}{B:List Addr}{Z:Mu}{fs:List (Addr×Hd)}{V:Sl}
theorem St.ns' (T:St c S env g s B Z fs V):∃m,s.heap.Ns env.locals m/\FSt c g s B Z ((env.locals,.ns m)::fs):=T.fst.elim fun m k=>⟨m,(k.1.fr _ (.head _)).1,k.1⟩
theorem St.newMu (T:St c S env g s B Z fs V){m:Str->Option Ac}(z:s.heap.Ns env.locals m){h':Heap}(u:UpL env.locals m s.heap h')(tk:Nat){a:Addr}{o:MO}(K:s.heap.get? a=none)(j:MR g h' a o):
  St c S env g {s with heap:=h',toks:=tk} (B++[a]) (Z++[some o]) fs V/\Ev g s B g {s with heap:=h',toks:=tk} (B++[a]):=by
 refine Aa fun C=>?_;obtain⟨mz,F,_⟩:=T.fst;have e:m=mz:=by funext x;exact z.agree (F.fr _ (.head _)).1 x
 subst e;refine C ?_;refine⟨T.frame (F.newMu (s':={s with heap:=h',toks:=tk}) u F.bare K j) Up.rfl (Ay4 _ _) (fun m' h=>?_) fun b o U O=>?_,⟨Up.rfl,Ay4 _ _,rfl⟩⟩
 ·funext x;exact h.agree z x
 ·refine Aa fun X=>?_;obtain⟨J,e,d⟩:=id O;refine X ?_;have W:b≠env.locals:=Jj z e (fun w f q=>by rw[d] at q;cases q);exact⟨U,J,u.up _ _ W e,d⟩
noncomputable def Mr (a:LM):EM:=fun V Z=>(a V Z).bind fun x=>(Lb x.1).bind fun l=>if l.length<=16777216 then some (.p (.list l),x.2) else none
noncomputable def K3 (a:LM):EM:=fun V Z=>(a V Z).bind fun x=>(Lb x.1).bind fun l=>if l.length<=16777216 then some (.mu x.2.length,x.2++[some (.lst l)]) else none
theorem U6 {l:List MV}:∀{ps:List PV},Lb l=some ps->ps.length=l.length:=by
 induction l with
 |nil=>exact fun e=>Af e▸rfl
 |cons x l J=>cases x with
  |p x=>exact fun e=>E4 e fun q hq e=>e▸congrArg Ays (J hq)
  |_=>exact fun e=>A2 e
theorem M9 {w:List Expr}{pos:Pos}{a:LM}(M:SL c k S w a):SE c k S (.List w pos) (Mr a):=by
 intro A G g s B Z J V d Z' Q E P T e X;refine Aw e fun z W e=>?_;refine Aw e fun l D e=>?_;have hz:=(Am e).1;replace e:=(Am e).2;replace X:=X.cast e;refine Bbs (M pos A G g s B Z J V z.1 _ _ E P T W fun u s1z L vs K I F=>?_);have h:vs.length=l.length:=by rw[F.length,U6 D]
 refine⟨by rw[h];exact hz,?_⟩;obtain⟨t,f⟩:=I.ev (E6 s1z.heap {cls:=.type "list",data:=.seq vs.toArray}) s1z.toks;exact X _ _ _ _ (K.trans f) t (.p (.list (Nv Ge (Cy _ rfl)) ((F.plains D).up f.up)))
theorem Ji {w:List Expr}{pos:Pos}{a:LM}(M:SL c k S w a):SE c k S (.List w pos) (K3 a):=by
 intro A G g s B Z J V d Z' Q E P T e X;refine Aw e fun q W e=>?_;refine Aw e fun l D e=>?_;have hz:=(Am e).1;replace e:=(Am e).2;replace X:=X.cast e;refine Bbs (M pos A G g s B Z J V q.1 _ _ E P T W fun U s1z L vs K I F=>?_);have h:vs.length=l.length:=by rw[F.length,U6 D]
 refine⟨by rw[h];exact hz,?_⟩;refine Aa fun n=>?_;obtain⟨m,z⟩:=I.ns;have u:UpL G.locals m s1z.heap (s1z.heap.push {cls:=.type "list",data:=.seq vs.toArray}):=⟨fun b o _ e=>E6 _ _ b o e,z.push _⟩;obtain⟨t,f⟩:=I.newMu z u s1z.toks Ge (o:=.lst l) (.lst (Cy _ rfl) (F.plains D));refine n ?_;exact X _ _ _ _ (K.trans f) t (.mu (by rw[<-I.ml];simp))
noncomputable def It (a:LM):EM:=fun V Z=>(a V Z).bind fun x=>if x.1.length<=1000 then some (mkTup x.1,x.2) else none
theorem En {w:List Expr}{n:Nat}{pos:Pos}{a:LM}(M:SL c k S w a):SE c k S (.Tuple w n pos) (It a):=by
 intro A G g s B Z J V d Z' Q E P T e X;refine Aw e fun z W e=>?_;have hz:=(Am e).1;replace e:=(Am e).2;replace X:=X.cast e;refine wpAny_Tuple_spliced (M pos A G g s B Z J V z.1 _ _ E P T W fun u s1z L vs K I F=>?_);refine⟨by rw[F.length,C7];have i:z.1.length<=1000:=hz;exact Ab hz (by decide),?_⟩;obtain⟨t,f⟩:=I.ev (E6 s1z.heap {cls:=.type "tuple",data:=.seq vs.toArray}) s1z.toks;exact X _ _ _ _ (K.trans f) t (VR.mkTup (Vr Ge Zl) (F.up f.up f.pre))
noncomputable def idx (i:Int)(n:Nat):Option Nat:=if i<0 then(if 0<=i+n then some (i+n).toNat else none) else if i<n then some i.toNat else none
noncomputable def Bb6 (x:MV)(i:Int)(Z:Mu):Option (MV×Mu):=match x with
 | .tup l=>if l.length<=16777216 then(idx i l.length).bind fun j=>(l[j]?).map fun x=>(x,Z) else none
 | .p y=>match y with
  | .tuple l=>if l.length<=16777216 then(idx i l.length).bind fun j=>(l[j]?).map fun x=>(.p x,Z) else none
  | .bytes l=>if l.size<=16777216 then(idx i l.size).bind fun j=>(l[j]?).map fun x=>(.p (.int x.toNat),Z) else none
  | .str l=>if l.length<=16777216 then(idx i l.length).bind fun j=>(l.cps[j]?).map fun x=>(.p (.str ⟨#[x]⟩),Z) else none
  |_=>(E0 Z x).bind fun l=>if l.length<=16777216 then(idx i l.length).bind fun j=>(l[j]?).map fun x=>(.p x,Z) else none
 | .mu _=>(E0 Z x).bind fun l=>if l.length<=16777216 then(idx i l.length).bind fun j=>(l[j]?).map fun x=>(.p x,Z) else none
noncomputable def D6 (x y:MV)(Z:Mu):Option (MV×Mu):=y.i?.bind fun i=>Bb6 x i Z
theorem Ap1 {i n:Int}(h:0<=i+n): -n<=i:=by lia
theorem Aol {i n:Int}(h:i<0):i+n<n:=by lia
theorem Po {i:Int}{n j:Nat}(h:idx i n=some j)(K:n<=16777216): -(2^63:Int)<=i/\i<2^63/\Aza i n=some j/\j<n:=by
 unfold idx at h;unfold Aza;have Y:(n:Int)<=16777216:=D7.mpr K;clear K;by_cases U:i<0
 ·rw[if_pos U] at h;have O:=(Am h).1;have C:i+(n:Int)<n:=Aol U;rw[<-Af (Am h).2];refine⟨Fh (Bbj (Fh Y (by decide))) (Ap1 O),N4 U (by decide),?_,E3.mp (by rw[Zc O];exact C)⟩;simp[U,O,C]
 ·rw[if_neg U] at h;have O:=(Am h).1;have C:=K8.mp U;rw[<-Af (Am h).2];refine⟨Fh (by decide) C,N4 O (Im Y (by decide)),?_,E3.mp (by rw[Zc C];exact O)⟩;simp[U,O,C]
theorem Ab1 {prog:Ia}{w:F7}{A:Bs}{E:Ac->Ad->Prop}{s:Ad}{Q:Ac->Ad->Prop}{b:Array UInt8}{i:Int}{t u:Tok}{j:Nat}{x:UInt8}(U:idx i b.size=some j)(K:b.size<=16777216)(R:b[j]?=some x)
  (h:Q (.int x.toNat s.toks) {s with toks:=s.toks+1}):A1 (model prog w) A (getItem (.bytes b t) (.int i u)) Q E s:=by
 refine Aa fun C=>?_;obtain⟨q1,q2,q3,T⟩:=Po U K;refine C ?_;refine getItem_gives (A3c s _ t) (by decide) Ayz FB.entry_bytes_getitem (FB.args_bytes_getitem_2 _ _) (gives_bytes_getitem _ i t u x ?_ ?_) h
 ·simp only[Builtin.Bytes.fitsIndex,A0,decide_eq_true_eq];exact⟨q1,q2⟩
 ·rw[q3];exact R
noncomputable def O2t (c:Cx)(k:Nat)(f:MV->MV->Mu->Option (MV×Mu)):Prop:=∀m W:Expr,(∀(o:Ac) (i:Int) (u:Tok),subscripted W false o (.int i u)=operate [o,.int i u] (getItem o (.int i u)))->O2 c k (Ayt m W) f
theorem Sv:typeLookup (Value.type "tuple") (oS "__getitem__")=pure (some (Value.builtin "tuple.__getitem__")):=slot_tuple_getitem.lookup
theorem Aln {A:Bs}{Q E:Ac->Ad->Prop}{a:Addr}{vs:List Ac}{i:Int}{u:Tok}{n j:Nat}{R:Ac}(t:s.heap.IsList a vs.toArray)(K:vs.length=n)(U:idx i n=some j)(hz:n<=16777216)(F:vs[j]?=some R)(X:Q R s):
  A1 c.M A (getItem (.ref a) (.int i u)) Q E s:=by
 have q:=Po U hz;have l:vs.toArray.size=n:=K;unfold idx at U;by_cases h:i<0
 ·rw[if_pos h] at U;exact wpAny_getItem_list_neg t h (by rw[l];exact Ap1 (Am U).1) q.1 (by rw[l,Af (Am U).2];exact Ed.trans F) X
 ·rw[if_neg h] at U;exact wpAny_getItem_list t (K8.mp h) q.2.1 (by rw[Af (Am U).2];exact Ed.trans F) X
theorem Dl:O2t c k D6:=fun m W M S A G g s B Z J V x y v w d Z' Q E P T n H e X=>Aw e fun i N e=>by
 rw[MV.i_i N] at H;obtain⟨u,rfl⟩:=H.pl;have L:(E0 Z x).bind (fun l=>if l.length<=16777216 then(idx i l.length).bind fun j=>(l[j]?).map fun x=>(MV.p x,Z) else none)=some (d,Z')->A1 c.M A (Ayt m W v (.int i u)) Q E s:=fun e=>
  Aw e fun l I e=>Aw (Am e).2 fun j U K=>Ur K fun z O K=>by
   refine exe2 (T.lst n I) fun a vs F=>?_;obtain⟨rfl,t,r⟩:=F;obtain⟨R,C,D⟩:=r.get O;exact As3 t.typeIs slot_list_getitem.lookup (Aln t r.length U (Am e).1 C (X.sm T K D)) (M _ _ _)
 cases x with
 |tup l=>
  refine Aa fun b=>?_;obtain⟨_,vs,rfl,t,r⟩:=n.inv;refine Aw (Am e).2 fun j U K=>Ur K fun z O K=>?_;have q:=Po U (Am e).1;obtain⟨R,C,D⟩:=r.get O;refine b ?_;have f:=Hu T.keep.s t;exact As3 f.typeIs Sv (getItem_tuple f q.1 q.2.1 (by rw[show vs.toArray.size=vs.length from rfl,r.length];exact q.2.2.1) (Ed.trans C) (X.cast K g s B _ (Ev.refl _ _ _) T D)) (M _ _ _)
 |mu j=>exact L e
 |p y=>cases y with
  |tuple l=>
   refine Aa fun h=>?_;refine exe2 n.pl fun _ vs o=>?_;obtain⟨rfl,t,r⟩:=o;refine Aw (Am e).2 fun j U K=>Ur K fun z O K=>?_;have q:=Po U (Am e).1;obtain⟨R,C,D⟩:=r.get O;refine h ?_;have f:=Hu T.keep.s t;exact As3 f.typeIs Sv (getItem_tuple f q.1 q.2.1 (by rw[show vs.toArray.size=vs.length from rfl,r.length];exact q.2.2.1) (Ed.trans C) (X.sm T K D)) (M _ _ _)
  |bytes l=>
   obtain⟨t,rfl⟩:=n.pl;exact Aw (Am e).2 fun j U K=>Ur K fun z O K=>As3 (A3c s _ _) Ayz.lookup (Ab1 U (Am e).1 O (X.tk T K (.int _ _) _)) (M _ _ _)
  |str l=>
   obtain⟨t,rfl⟩:=n.pl;refine Aw (Am e).2 fun j U K=>Ur K fun z O K=>?_;exact As3 (Qa s _ _) slot_str_getitem.lookup (PyProof.Rows.getItem_str (by have:=(Po U (Am e).1).1;have:=(Po U (Am e).1).2.1;clear L n X P T;simp;lia) (by rw[(Po U (Am e).1).2.2.1];exact O) (X.tk T K (.str _ _) _)) (M _ _ _)
  |_=>exact L e
theorem Ec {m W:Expr}{pos:Pos}{f:MV->MV->Mu->Option (MV×Mu)}{a b:EM}(M:SE c k S m a)(Y:SE c k S W b)(O:O2 c k (Ayt m W) f):SE c k S (.Subscript m W pos) (bE f a b):=by
 intro A G g s B Z J V d Z' Q E P T e h;refine exe4 (Wr e) fun x n y X z=>?_;have D:=z.2.1;have N:=z.2.2;refine As2 (M A G g s B Z J V x n _ E P T z.1 fun U s1z L v K I F=>?_);refine Y A G U s1z L n J V y X _ E P I D fun gb j q w i H r=>?_;exact O S A G gb j q X J V x y v w d Z' Q E P H (F.up i.up i.pre) r N fun t p C u R o l=>h t p C u ((K.trans i).trans R) o l
noncomputable abbrev PM:=Sl->Mu->Option (Option Int×Mu)
noncomputable def SP (c:Cx)(k:Nat)(S:Sg)(e:Option Expr)(f:PM):Prop:=
 ∀(A:Bs)(G:Env)(g:Heap)(s:Ad)(B:List Addr)(Z:Mu)(J:List (Addr×Hd))(V:Sl)(d:Option Int)(Z':Mu)(Q E:Ac->Ad->Prop),
  AOk A k ((G.locals,HK.ns)::J.map kd)->St c S G g s B Z J V->f V Z=some (d,Z')->
  (∀N s' I v,Ev g s B N s' I->St c S G N s' I Z' J V->IsPart v d->Q v s')->A1 c.M A (Km (Uo e G)) Q E s
noncomputable def noP:PM:=fun _ Z=>some (none,Z)
noncomputable def atP (a:EM):PM:=fun V Z=>(a V Z).bind fun x=>match x.1 with
 | .p (.int i)=>some (some i,x.2)
 |_=>none
theorem Qc:SP c k S none noP:=by
 intro A G g s B Z J V d Z' Q E P T e X;cases e;exact Al (X g s B _ (Ev.refl _ _ _) T .none)
theorem Bab (z:MV)(m:Mu):(match z with| .p (.int i)=>some (some i,m)|_=>none)=z.i?.map fun i=>(some i,m):=by
 cases z with
 |p z=>cases z<;>rfl
 |_=>rfl
theorem Ly {x:Expr}{a:EM}(M:SE c k S x a):SP c k S (some x) (atP a):=fun A G g s B Z J V d Z' Q E P T e X=>Aw e fun y W e=>E4 ((Bab y.1 y.2).symm.trans e) fun i D N=>by
 refine M A G g s B Z J V y.1 _ Q E P T W fun u s1z L v K I F=>?_;rw[MV.i_i D] at F;obtain⟨t,rfl⟩:=F.pl;exact X _ _ _ _ K ((Prod.mk.inj N).2▸I) ((Prod.mk.inj N).1▸.int _ _)
noncomputable def cut {α:Type}(k H:Option Int)(l:List α):List α:=(l.drop (X3 k l.length)).take (Aei H l.length-X3 k l.length)
theorem A1l (x:Int):(max 0 x).toNat=x.toNat:=by
 rcases Int.le_total 0 x with h|h
 ·rw[Int.max_eq_right h]
 ·rw[Int.max_eq_left h,Int.toNat_of_nonpos h];rfl
theorem Ajf (n:Nat)(i:Int):clipAt n i=if i<0 then n-(-i).toNat else min i.toNat n:=by
 unfold clipAt;rw[A1l];by_cases h:i<0
 ·rw[if_pos h,if_pos h,A8x (Co (Aol h))];obtain⟨k,hk⟩:=Ek (Int.neg_nonneg.mpr (Co h));rw[show i= -(k:Int) by rw[<-hk,Xv],Xv,I5];exact Int.toNat_sub n k
 ·rw[if_neg h,if_neg h];obtain⟨k,rfl⟩:=Ek (K8.mp h);rcases Nat.le_total k n with q|q
  ·rw[A8x (D7.mpr q)];exact(H1 q).symm
  ·rw[Int.min_eq_right (D7.mpr q)];exact(Jm q).symm
theorem Aew (k:Option Int)(n:Nat):k.elim 0 (clipAt n)=X3 k n:=by
 cases k with
 |none=>rfl
 |some i=>exact Ajf n i
theorem Aev (H:Option Int)(n:Nat):H.elim n (clipAt n)=Aei H n:=by
 cases H with
 |none=>rfl
 |some i=>exact Ajf n i
noncomputable def Au5 (f:Bool):MV->Option Int->Option Int->Mu->Option (MV×Mu)
 | .p (.bytes b),k,H,Z=>if b.size<=16777216 then some (.p (.bytes (cut k H b.toList).toArray),Z) else none
 |x,k,H,Z=>(E0 Z x).bind fun l=>if l.length<=16777216 then(if f=true then some (.mu Z.length,Z++[some (.lst (cut k H l))]) else some (.p (.list (cut k H l)),Z)) else none
noncomputable def slE (f:Bool)(a:EM)(k H:PM):EM:=fun V Z=>(a V Z).bind fun x=>(k V x.2).bind fun y=>(H V y.2).bind fun z=>Au5 f x.1 y.1 z.1 z.2
theorem PRs.cut {g:Heap}{l:List PV}{vs:List Ac}(r:PRs g l vs)(k H:Option Int):PRs g (Mine.cut k H l) (kms_pick vs k H):=by
 unfold Mine.cut kms_pick;rw[r.length];exact(r.drop _).take _
theorem Wz {g:Heap}(b:Array UInt8)(k H:Option Int)(t:Tok):PR g (.bytes (Mine.cut k H b.toList).toArray) (.bytes (List.take (Aei H b.size-X3 k b.size) (List.drop (X3 k b.size) b.toList)).toArray t):=by
 have:(Mine.cut k H b.toList).toArray=(List.take (Aei H b.size-X3 k b.size) (List.drop (X3 k b.size) b.toList)).toArray:=by unfold Mine.cut;rw[P4]
 rw[this];exact .bytes _ _
theorem A5o {f:Bool}{x:MV}{k H:Option Int}{Z:Mu}{y:MV×Mu}(e:Au5 f x k H Z=some y):(∃b,x=.p (.bytes b))\/((E0 Z x).bind fun l=>if l.length<=16777216 then(if f=true then some (MV.mu Z.length,Z++[some (.lst (cut k H l))]) else some (.p (.list (cut k H l)),Z)) else none)=some y:=by
 cases x with
 |p x=>cases x with
  |bytes b=>exact .inl ⟨b,rfl⟩
  |_=>exact .inr e
 |_=>exact .inr e
theorem Afo (m:Expr){b:Array UInt8}{t:Tok}(r:Ac):As8 m (.bytes b t) r=pure ():=by cases m<;>rfl
theorem Pe {w:Expr}{l u:Option Expr}{p pos:Pos}{f:Bool}{a:EM}{lo H:PM}(M:SE c k S w a)(i:SP c k S l lo)(hu:SP c k S u H)
  (ht:∀(o r:Ac),As8 w o r=pure ()\/∃b t,o=.bytes b t):SE c k S (.Subscript w (.Slice l u none p) pos) (slE f a lo H):=by
 intro A G g s B Z J V d Z' Q E P T e X;refine Aw e fun x W e=>Aw e fun y L e=>Aw e fun z e3 e=>?_;refine As2 (M A G g s B Z J V x.1 x.2 _ E P T W fun ga s1z R v K I U=>?_);show A1 c.M A (do
  let l<-Km (Uo l G)
  let u<-holding [l] (Km (Uo u G))
  let s<-holding [l,u] (Km (Uo none G))
  newFields "slice" [l,u,s]) _ E s1z
 refine Ag (i A G ga s1z R x.2 J V y.1 y.2 _ E P I L fun gb j B2z vl O Y pl=>?_);refine Ag (Ci (hu A G gb j B2z y.2 J V z.1 z.2 _ E P Y e3 fun gc s3z B3z vu h3z T3z pu=>?_));refine Ag (Ci (Al ?_));refine Li ?_;have rc:=U.up (O.up.trans h3z.up) (O.pre.trans h3z.pre);obtain⟨m,n⟩:=T3z.ns;rcases A5o e with⟨b,hb⟩|e
 ·rw[hb] at rc e;have hz:=(Am e).1;obtain⟨t,rfl⟩:=rc.pl;refine KBc.slice_K (fr0 n) Xf rfl pl pu (by simpa[KBw.bInts] using hz) (fun h' t' tk F N _=>?_) rfl (Afo w);have TE:=T3z.evL n (Si F N fun p C=>C) tk;rw[KBc.picked_eq,Aew,Aev];exact X.cast (Am e).2 _ _ _ _ (((K.trans O).trans h3z).trans TE.2) TE.1 (.p (Wz _ _ _ _))
 ·refine Aa fun zk25=>?_;refine Aw e fun q e4 e=>?_;have hz:=(Am e).1;replace e:=(Am e).2;refine exe2 (T3z.lst rc e4) fun o vs zw25=>?_;obtain⟨rfl,t,r⟩:=zw25;refine zk25 ?_;refine kms_slice_lit (fr0 n) Xf t pl pu rfl (fun D h' F N hf=>?_) rfl (fun r=>?_) (by rw[show vs.toArray.size=vs.length from rfl,r.length,C7];exact hz)
  ·have hn:s3z.heap.get? D=none:=Abz (N _ (.head _)).2.1 hf;have hu':=Si F N fun p C=>.tail _ C;cases f with
   |true=>
    have TE:=T3z.newMu n hu' s3z.toks hn (o:=.lst (cut y.1 z.1 q)) (.lst (N _ (.head _)).1 (r.cut y.1 z.1));exact X.cast e _ _ _ _ (((K.trans O).trans h3z).trans TE.2) TE.1 (.mu (by rw[<-T3z.ml];exact Gl))
   |false=>
    exact X.cast e _ _ _ _ (((K.trans O).trans h3z).trans (T3z.evL n hu' s3z.toks).2) (T3z.evL n hu' s3z.toks).1 (.p (.list (Nv hn (N _ (.head _)).1) ((r.cut y.1 z.1).up (T3z.evL n hu' s3z.toks).2.up)))
  ·rcases ht (.ref o) r with h|⟨b,t,h⟩
   ·exact h
   ·exact nomatch h
end
end
section
section
variable {c:Cx}{k:Nat}{S:Sg}{env:Env}{g:Heap}{s:Ad}{B:List Addr}{Z:Mu}{fs:List (Addr×Hd)}{V:Sl}
theorem A6z {L:Addr}{m:Str->Option Ac}(A:(((L,.ns m)::fs).map (·.1)).Nodup){q:Addr×Hd}(hq:q∈fs):q.1≠L:=fun e=>by
 simp only[qk,C4] at A;exact A.1 (Bj.mpr ⟨q,hq,e⟩)
theorem FSt.names {L:Addr}{m m':Str->Option Ac}(F:FSt c g s B Z ((L,.ns m)::fs)){s':Ad}(u:UpL L m' s.heap s'.heap)(Y:Lf s'.gens):FSt c g s' B Z ((L,.ns m')::fs):=by
 refine Aa fun z=>?_;obtain⟨(K:s.heap.Ns L m),n,d⟩:=F.fr _ (.head _);refine z ?_;refine⟨fun b o e=>u.up b o (fun q=>by rw[q] at e;exact nomatch n.symm.trans e) (F.keep _ _ e),Y,F.len,fun i o a H M=>?_,F.dead,F.nd,fun a M=>((F.liv a M).elim fun o e=>⟨o,u.up a o (fun q=>d (q▸M)) e⟩),fun q hq=>?_,F.fnd,F.top,fun q hq=>?_,F.tnd⟩
 ·have W:a≠L:=fun q=>d (q▸Bo M);exact⟨(F.mu i o a H M).1,(F.mu i o a H M).2.up Up.rfl fun x e=>u.up a x W e⟩
 ·rcases Av.mp hq with rfl|hq'
  ·exact⟨u.ns,n,d⟩
  ·obtain⟨U,O,C⟩:=F.fr q (.tail _ hq');exact⟨U.at fun o e=>u.up _ o (A6z F.fnd hq') e,O,C⟩
 ·obtain⟨U,ps,h⟩:=F.tab q hq;have O:=h.1;have W:q.tab≠L:=Jj K O (fun w f e=>by cases e);exact⟨U,ps,u.up _ _ W O,h.2⟩
theorem MR.notCell {h:Heap}{a:Addr}{o:MO}(r:MR g h a o){ov:Option Ac}:¬h.IsCell a ov:=fun⟨_,Q,E⟩=>
 r.obj.elim fun _ k=>k.2.1 _ (Af (k.1.symm.trans Q)▸E)
theorem MR.notTab {h:Heap}{a:Addr}{o:MO}(r:MR g h a o){ps:Array Ac}:¬h.get? a=some (Qb ps):=fun Q=>
 let ⟨_,e,_,n⟩:=r.obj;n _ (Af (e.symm.trans Q))
theorem FSt.upd (F:FSt c g s B Z fs){a:Addr}(v:g.get? a=none){s':Ad}{Z':Mu}(u:∀b o,b≠a->s.heap.get? b=some o->s'.heap.get? b=some o)(f:∃o,s'.heap.get? a=some o)(Y:Lf s'.gens)(r:∀q∈fs,q.1≠a)
  (j:∀q∈c.tabs,q.tab≠a)(h:Z'.length=Z.length)(l:∀(i:Nat)(o:MO)(b:Addr),Z'[i]?=some (some o)->B[i]?=some b->(b≠a/\Z[i]?=some (some o))\/(b=a/\MR g s'.heap a o))(d:∀(i:Nat)(b:Addr),Z'[i]?=some none->B[i]?=some b->Z[i]?=some none):FSt c g s' B Z' fs:=by
 refine⟨fun b o e=>u b o (fun q=>by rw[q] at e;exact nomatch v.symm.trans e) (F.keep _ _ e),Y,F.len.trans h.symm,fun i o b H Y=>?_,fun i b H Y=>F.dead i b (d i b H Y) Y,F.nd,fun b Y=>?_,fun q hq=>?_,F.fnd,F.top,fun q hq=>?_,F.tnd⟩
 ·rcases l i o b H Y with q|q
  ·exact⟨(F.mu i o b q.2 Y).1,(F.mu i o b q.2 Y).2.up Up.rfl fun x e=>u b x q.1 e⟩
  ·rw[q.1];exact⟨v,q.2⟩
 ·by_cases q:b=a
  ·rw[q];exact f
  ·exact(F.liv b Y).elim fun o e=>⟨o,u _ _ q e⟩
 ·exact⟨(F.fr q hq).1.at fun o e=>u _ o (r q hq) e,(F.fr q hq).2⟩
 ·exact⟨(F.tab q hq).1,(F.tab q hq).2.elim fun ps k=>⟨ps,u _ _ (j q hq) k.1,k.2⟩⟩
theorem FSt.cell (F:FSt c g s B Z fs){a:Addr}{D:Option Ac}(L:s.heap.IsCell a D)(v:g.get? a=none){s':Ad}(u:∀b o,b≠a->s.heap.get? b=some o->s'.heap.get? b=some o)(f:∃o,s'.heap.get? a=some o)(Y:Lf s'.gens):FSt c g s' B Z fs:=
 F.upd v u f Y (fun q hq e=>(F.fr q hq).1.nec L e.symm) (fun q hq e=>(F.tab q hq).2.elim fun ps k=>L.elim fun J d=>by rw[e] at k;exact nomatch (congrArg Obj.data (Af (k.1.symm.trans d.1))).trans d.2) rfl
  (fun i o b H Y=>.inl ⟨fun q=>(F.mu i o b H Y).2.notCell (q▸L),H⟩) (fun _ _ h _=>h)
theorem FSt.setMu (F:FSt c g s B Z fs){i:Nat}{a:Addr}{o l:MO}(H:Z[i]?=some (some o))(M:B[i]?=some a){s':Ad}(u:∀b x,b≠a->s.heap.get? b=some x->s'.heap.get? b=some x)(d:MR g s'.heap a l)(Y:Lf s'.gens):FSt c g s' B (Z.set i (some l)) fs:=
 F.upd (F.mu i o a H M).1 u (d.obj.elim fun x e=>⟨x,e.1⟩) Y (fun q hq e=>(F.fr q hq).2.2 (e▸Bo M)) (fun q hq e=>(F.tab q hq).2.elim fun ps k=>(F.mu i o a H M).2.notTab (e▸k.1)) (Mc ..)
  (fun j x b E Y=>(Rk E).elim (fun q=>.inr ⟨Af (Y.symm.trans (q.1▸M)),Af q.2▸d⟩) fun q=>.inl ⟨fun e=>q.1 (Vt F.nd Y (e▸M)),q.2⟩)
  (fun j b E Y=>(Rk E).elim (fun q=>nomatch q.2) fun q=>q.2)
theorem St.setMu (T:St c S env g s B Z fs V){i:Nat}{a:Addr}{o l:MO}(H:Z[i]?=some (some o))(M:B[i]?=some a){h':Heap}(u:∀b x,b≠a->s.heap.get? b=some x->h'.get? b=some x)(j:MR g h' a l)(tk:Nat):
  St c S env g {s with heap:=h',toks:=tk} B (Z.set i (some l)) fs V/\Ev g s B g {s with heap:=h',toks:=tk} B:=by
 refine Aa fun y=>?_;obtain⟨m,z⟩:=T.fst;have F:=z.1;refine y ?_;refine⟨T.frame (F.setMu (s':={s with heap:=h',toks:=tk}) H M u j F.bare) Up.rfl (Bi _) (fun m' h=>?_) fun b D U O=>?_,Ev.same Up.rfl rfl⟩
 ·funext x;exact h.agree (F.fr _ (.head _)).1 x
 ·have W:b≠a:=by rintro rfl;exact(F.mu i o b H M).2.notCell O
  obtain⟨J,w⟩:=O;exact⟨U,J,u _ _ W w.1,w.2⟩
theorem Ax7 (T:St c S env g s B Z fs V){i j:Nat}{x:Str}{a b:VK}(U:S.vars[i]?=some (x,a))(O:S.vars[j]?=some (x,b)):i=j:=by
 refine Vt T.names (a:=x) ?_ ?_
 ·rw[B0,U];rfl
 ·rw[B0,O];rfl
theorem Ahl {i j:Nat}{x y:Str}{a b:VK}(U:S.vars[i]?=some (x,a))(O:S.vars[j]?=some (y,b))(h:a≠b){V:Sl}{d e:MV}(p:(V.set i (some d))[j]?=some (some e)):V[j]?=some (some e):=
 (Rk p).elim (fun q=>absurd (congrArg Aiu (Af (U.symm.trans (q.1▸O)))) h) fun q=>q.2
theorem St.store (T:St c S env g s B Z fs V){i:Nat}{x:Str}{vk:VK}(H:S.vars[i]?=some (x,vk))(hk:vk≠.cap){d:MV}{v:Ac}(r:VR g B d v){A:Bs}{Q:Unit->Ad->Prop}{E:Ac->Ad->Prop}
  (h:∀s',Ev g s B g s' B->St c S env g s' B Z fs (V.set i (some d))->Q () s'):A1 c.M A (Alu env x v) Q E s:=by
 have N:(V.set i (some d)).length=S.vars.length:=(Mc ..).trans T.len;cases vk with
 |loc=>
  obtain⟨m,F,R⟩:=T.fst;refine wpAny_storeName_local (T.loc i x H) (F.fr _ (.head _)).1 (fun h' K l=>?_) (by rw[T.kind];rfl);have M:=F.names (s':={s with heap:=h',toks:=s.toks+1}) ⟨fun b o Y e=>(l.2 b Y).trans e,K⟩ F.bare;refine h _ (Ev.same Up.rfl rfl) ⟨T.kind,T.glob,T.blt,T.sc,⟨_,M,fun j y e D p=>?_⟩,T.loc,fun j y D=>?_,T.inj,fun j y e D p=>T.cap j y e D (Ahl H D (by decide) p),T.names,N,T.known⟩
  ·rcases Rk p with q|q
   ·have P:y=x:=congrArg Ato (Af (D.symm.trans (q.1▸H)));rw[Af q.2,P];exact⟨v,if_pos rfl,r⟩
   ·have P:y≠x:=fun e=>q.1 (Ax7 T D (e▸H));exact(R j y e D q.2).elim fun w k=>⟨w,(if_neg P).trans k.1,k.2⟩
  ·refine⟨(T.own j y D).1,(T.own j y D).2.elim fun a k=>k.elim fun t k=>exi2 a t ⟨k.1,k.2.1,?_,fun e p=>k.2.2.2 e (Ahl H D (by decide) p)⟩⟩;exact k.2.2.1.elim fun u q=>⟨u,(l.2 a (Jj (F.fr _ (.head _)).1 q.1 (fun X I z=>nomatch q.2.symm.trans z))).trans q.1,q.2⟩
 |own=>
  refine Aa fun f=>?_;obtain⟨U,a,t,O,C,G,n⟩:=T.own i x H;refine f ?_;refine wpAny_storeName_cell T.kind U O G fun h' L l=>?_;obtain⟨m,F,R⟩:=T.fst;have M:=F.cell (s':={s with heap:=h'}) G C (fun b o Y e=>(l.2 b Y).trans e) (L.elim fun o e=>⟨o,e.1⟩) F.bare;refine h _ (Ev.same Up.rfl rfl) ⟨T.kind,T.glob,T.blt,T.sc,⟨_,M,fun j y e D p=>R j y e D (Ahl H D (by decide) p)⟩,T.loc,fun j y D=>?_,T.inj,fun j y e D p=>T.cap j y e D (Ahl H D (by decide) p),T.names,N,T.known⟩;by_cases J:j=i
  ·have P:y=x:=congrArg Ato (Af (D.symm.trans (J▸H)));rw[P];refine⟨U,a,_,O,C,L,fun e p=>(Rk p).elim (fun q=>?_) fun q=>absurd J q.1⟩;rw[Af q.2];exact⟨v,rfl,r⟩
  ·have k:=T.own j y D;refine⟨k.1,k.2.elim fun b k=>k.elim fun W k=>exi2 b W ⟨k.1,k.2.1,?_,fun e p=>(Rk p).elim (fun q=>absurd q.1 J) fun q=>k.2.2.2 e q.2⟩⟩;exact k.2.2.1.elim fun u q=>⟨u,(l.2 b (fun e=>J (T.inj j i y x b D H k.1 (e▸O)))).trans q.1,q.2⟩
 |cap=>exact absurd rfl hk
noncomputable abbrev TM:=Sl->Mu->MV->Option (Sl×Mu)
noncomputable def STg (c:Cx)(k:Nat)(S:Sg)(t:Env->Ac->Sem Unit)(f:TM):Prop:=
 ∀(A:Bs)(G:Env)(g:Heap)(s:Ad)(B:List Addr)(Z:Mu)(J:List (Addr×Hd))(V:Sl)(d:MV)(v:Ac)(V':Sl)(Z':Mu)(Q:Unit->Ad->Prop)(E:Ac->Ad->Prop),
  AOk A k ((G.locals,HK.ns)::J.map kd)->St c S G g s B Z J V->VR g B d v->f V Z d=some (V',Z')->
  KB c S G g s B Z' J V' (Q ())->A1 c.M A (t G v) Q E s
noncomputable abbrev STa (c:Cx)(k:Nat)(S:Sg)(e:Expr)(f:TM):Prop:=STg c k S (assign e) f
noncomputable def Bc (i:Nat):TM:=fun V Z d=>some (V.set i (some d),Z)
theorem At8 {i:Nat}{x:Str}{vk:VK}(H:S.vars[i]?=some (x,vk))(hk:vk≠.cap):STg c k S (fun G v=>As7 G x v) (Bc i):=by
 intro A G g s B Z J V d v V' Z' Q E P T r e h;cases e;exact Atc (T.store H hk r fun s' f t=>h g s' B f t)
theorem Wi {i:Nat}{x:Str}{vk:VK}{pos:Pos}(H:S.vars[i]?=some (x,vk))(hk:vk≠.cap):STa c k S (.Name x pos) (Bc i):=by
 intro A G g s B Z J V d v V' Z' Q E P T r e h;cases e;exact Ag (Df (Atc (T.store H hk r fun s' f t=>h g s' B f t)))
theorem tn (i:Nat){x:Str}(vk:VK){pos:Pos}(H:S.vars[i]?=some (x,vk))(hk:vk≠.cap:=by decide):STa c k S (.Name x pos) (Bc i):=Wi H hk
noncomputable abbrev TsM:=Sl->Mu->List MV->Option (Sl×Mu)
noncomputable def STs (c:Cx)(k:Nat)(S:Sg)(m:List (Env->Ac->Sem Unit))(f:TsM):Prop:=
 ∀(A:Bs)(G:Env)(g:Heap)(s:Ad)(B:List Addr)(Z:Mu)(J:List (Addr×Hd))(V:Sl)(d:List MV)(v:List Ac)(V':Sl)(Z':Mu)(Q:Unit->Ad->Prop)(E:Ac->Ad->Prop),
  AOk A k ((G.locals,HK.ns)::J.map kd)->St c S G g s B Z J V->VRs g B d v->f V Z d=some (V',Z')->
  KB c S G g s B Z' J V' (Q ())->A1 c.M A (assignInOrder (m.map fun t=>t G) v) Q E s
noncomputable def Rl:TsM:=fun V Z d=>match d with
 |[]=>some (V,Z)
 |_=>none
noncomputable def Gi (f:TM)(r:TsM):TsM:=fun V Z d=>match d with
 |[]=>none
 |x::l=>(f V Z x).bind fun y=>r y.1 y.2 l
theorem Na:STs c k S [] Rl:=fun A G g s B Z J V d v V' Z' Q E P T r e h=>by
 replace r:=r.inv;cases d with
 |nil=>rw[show v=[] from r];exact Al (h.casts e g s B (Ev.refl _ _ _) T)
 |cons=>exact A2 e
theorem Ex {t:Env->Ac->Sem Unit}{m:List (Env->Ac->Sem Unit)}{f:TM}{q:TsM}(U:STg c k S t f)(O:STs c k S m q):STs c k S (t::m) (Gi f q):=fun A G g s B Z J V d v V' Z' Q E P T r e h=>by
 replace r:=r.inv;cases d with
 |nil=>exact A2 e
 |cons x l=>
  refine Aa fun C=>?_;refine exe2 r fun w ws F=>?_;obtain⟨n,D,z⟩:=F;refine C ?_;rw[n];exact Aw e fun y W e=>Ag (Ci (U A G g s B Z J V _ _ y.1 y.2 _ E P T D W fun u s1z L K I=>
   O A G u s1z L y.2 J y.1 _ _ V' Z' Q E P I (z.up K.up K.pre) e fun gb j o i H=>h gb j o (K.trans i) H))
noncomputable def Kp (Z:Mu):MV->Option (List MV)
 | .p (.tuple l)=>some (l.map .p)
 | .tup l=>some l
 |x=>(E0 Z x).map fun l=>l.map .p
theorem St.unpack (T:St c S env g s B Z fs V){A:Bs}(C:A.handled=none){x:MV}{v:Ac}(r:VR g B x v){l:List MV}(e:Kp Z x=some l){n:Nat}(K:l.length=n){Q:List Ac->Ad->Prop}{E:Ac->Ad->Prop}
  (h:∀N s' vs,Ev g s B N s' B->St c S env N s' B Z fs V->VRs N B l vs->Q vs s'):A1 c.M A (A8n v n none) Q E s:=by
 have H:∀(h':Heap),Mq s.heap.objs.size s.heap h'->∀vs,VRs g B l vs->Q vs {s with heap:=h'}:=fun h' R vs m=>by
  obtain⟨z,f⟩:=T.ev (h':=h') (fun b o e=>R b o (J6 (D5 e)) e) s.toks;exact h _ _ vs f z (m.up f.up f.pre)
 have L:∀{q:List PV},E0 Z x=some q->q.map MV.p=l->A1 c.M A (A8n v n none) Q E s:=fun W e=>by
  refine exe2 (T.lst r W) fun a vs d=>?_;obtain⟨rfl,t,Y⟩:=d;rw[show n=vs.toArray.size by rw[<-K,<-e,Bn];exact Y.length.symm];exact kun_itemsOf C t fun h' R=>H h' R _ (e▸Y.vrs)
 have k:∀{a:Addr} {vs:List Ac},v=.ref a->g.IsTuple a vs.toArray->VRs g B l vs->A1 c.M A (A8n v n none) Q E s:=fun{a vs} f t r=>by
  rw[f,show n=vs.toArray.size by rw[<-K];exact r.length.symm];exact wpAny_unpackItems_tuple C (Hu T.keep.s t) fun h' R=>H h' R _ r
 cases x with
 |tup j=>obtain⟨a,vs,f,t,r⟩:=r.inv;exact k f t (Af e▸r)
 |mu i=>exact E4 e fun q W e=>L W e
 |p y=>cases y with
  |tuple j=>obtain⟨a,vs,f,t,r⟩:=r.pl;exact k f t (Af e▸r.vrs)
  |list j=>exact L rfl (Af e)
  |_=>exact A2 e
noncomputable def T3 (n:Nat)(f:TsM):TM:=fun V Z d=>(Kp Z d).bind fun l=>if l.length=n then f V Z l else none
theorem Ko {elts:List Expr}{kk:Nat}{pos:Pos}{m:List (Env->Ac->Sem Unit)}{f:TsM}(h:STs c k S m f)(a:∀env,Aec elts env=m.map fun t=>(false,t env)):STa c k S (.Tuple elts kk pos) (T3 m.length f):=by
 intro A env g s B Z J V d v V' Z' Q E P T r e X;obtain⟨l,p⟩:=qa e;have e:=p.2;have N:=(Am e).1;replace e:=(Am e).2;refine Ag (Df ?_);rw[a];unfold PySem.unpack;have b:(m.map fun t=>((false:Bool),t env)).findIdx? (·.1)=none:=by
  rw[List.findIdx?_eq_none_iff];intro x R;obtain⟨t,_,rfl⟩:=Bj.mp R;rfl
 rw[b];refine Ag (Ci (T.unpack P.hh r p.1 (by rw[Bn];exact N) fun u s1z vs K I F=>?_));have z:(m.map fun t=>((false:Bool),t env)).map (·.2)=m.map fun t=>t env:=by rw[F6];rfl
 rw[z];exact h A env u s1z B Z J V l vs V' Z' Q E P I F e fun gb j q i H=>X gb j q (K.trans i) H
theorem Aro {h:Heap}{l:Addr}{vs:List Ac}{n:Nat}(t:IsL h l vs.toArray n){j:Int}{p:Prop}(_:0<=j/\p)(v:Ac):∃n',IsL (h.update l (Fp (·.setIfInBounds j.toNat v))) l (vs.set j.toNat v).toArray n':=by
 have C:=Uy t (fun i=>i.setIfInBounds j.toNat v);rw[show vs.toArray.setIfInBounds j.toNat v=(vs.set j.toNat v).toArray from by simp] at C;exact⟨_,C⟩
noncomputable def Akx (a b:EM):TM:=fun V Z d=>(a V Z).bind fun x=>(b V x.2).bind fun y=>x.1.m?.bind fun i=>y.1.i?.bind fun j=>d.p?.bind fun z=>(Lq y.2 i).bind fun l=>
 if 0<=j/\j<l.length/\l.length<=16777216 then some (V,y.2.set i (some (.lst (l.set j.toNat z)))) else none
theorem Aaf {o i:Expr}{pos:Pos}{a b:EM}(M:SE c k S o a)(Y:SE c k S i b)(H:∀(ov iv v:Ac),(match i with| .Slice _ _ none _=>[iv,v,ov]|_=>[v,ov,iv])=[v,ov,iv]):STa c k S (.Subscript o i pos) (Akx a b):=
 fun A G g s B Z J V d v V' Z' Q E P T r e X=>Aw e fun x W e=>Aw e fun y D e=>Aw e fun j N e=>Aw e fun n O e=>Aw e fun z e5 e=>Aw e fun l e6 e=>by
 have hz:=(Am e).1;refine Ag (m:=holding [v] (eval o G)) (Ci (M A G g s B Z J V _ x.2 _ E P T W fun w s1z L ov K I U=>?_));refine Ag (Ci (Y A G w s1z L x.2 J V _ _ _ E P I D fun gb f q iv h C rb=>?_));refine Ag (Df (Ag (Ci ?_)));have r1':=U.up h.up h.pre;have p:=r.up (K.up.trans h.up) (K.pre.trans h.pre);rw[MV.m_i N] at r1';rw[MV.i_i O] at rb;rw[MV.p_i e5] at p;refine Aa fun zk13=>?_;obtain⟨ad,rfl,haddr⟩:=r1'.inv;obtain⟨u,rfl⟩:=rb.pl;obtain⟨m,F,_⟩:=C.fst;refine exe2 ((F.mu _ _ _ (Jx e6) haddr).2.l) fun vs nn zw23=>?_;obtain⟨t,rl⟩:=zw23;refine zk13 ?_;refine ki_setAt t hz.1 (D9 hz.2.1 (Fh (D7.mpr hz.2.2) (by decide))) (by rw[show vs.toArray.size=vs.length from rfl,rl.length];exact hz.2.1) ?_;obtain⟨n',hup⟩:=Aro t hz v;have R:=C.setMu (Jx e6) haddr (fun b x Y e=>((Es ..).2 b Y).trans e) (.lst hup (rl.set _ p.inv)) f.toks;exact wpAny_release (X.casts (Am e).2 _ _ _ ((K.trans h).trans R.2) R.1)
end
end
section
noncomputable def O0 (S:Sg):Env:={(default:Env) with scope:={(default:M6) with kind:=.function,names:=S.names}}
theorem Avf {S:Sg}{G:Env}(U:G.scope.kind=.function)(O:G.scope.names=S.names):G={G with scope:={G.scope with kind:=.function,names:=S.names}}:=by rw[<-U,<-O]
theorem I9 {S:Sg}{G:Env}(U:G.scope.kind=.function)(O:G.scope.names=S.names)(v:Expr)(t:Option Expr)(n:Nat):Fo v t n G=Fo v t n (O0 S):=
 (congrArg (Fo v t n) (Avf U O)).trans rfl
theorem Gr {S:Sg}{G:Env}(U:G.scope.kind=.function)(O:G.scope.names=S.names)(m:List Expr)(v:Expr):Gd m v G=Gd m v (O0 S):=
 (congrArg (Gd m v) (Avf U O)).trans rfl
section
variable {c:Cx}{k:Nat}{S:Sg}
noncomputable def Cp (a:EM)(t:TM):SM:=fun V Z=>(a V Z).bind fun x=>(t V x.2 x.1).map fun y=>(.next,y.1,y.2)
theorem Bq {t m:Expr}{pos:Pos}{a:EM}{f:TM}(M:SE c k S m a)(d:STa c k S t f)
  (U:Fo m (some t) pos.line (O0 S)=pure false)(O:Gd [t] m (O0 S)=pure none)
  (C:∀G,(Aec [t] G).map (·.2)=[assign t G]):SX c k S (.Assign [t] m pos) (Cp a f):=by
 intro A G g s B Z J V fl V' Z' Q E l T e X;have P:=l.1;refine Aa fun z=>?_;refine Aw e fun b W e=>?_;refine E4 e fun i D e=>?_;cases e;refine z ?_;refine Mp (M A G g s B Z J V b.1 b.2 _ E P T W fun u s1z L v Y I F=>?_) ?_ ?_
 ·rw[C];exact d A G u s1z L b.2 J V b.1 v _ _ _ E P I F D fun gb j q h H=>X gb j q _ (Y.trans h) H .next
 ·show Fo m (some t) pos.line G=pure false;rw[I9 T.kind T.sc];exact U
 ·rw[Gr T.kind T.sc];exact O
noncomputable def swT (n:Nat)(f:TsM):TM:=fun V Z d=>(Kp Z d).bind fun l=>if l.length=n then f V Z l.reverse else none
theorem Azw {names:List Str}{f:TsM}(h:STs c k S (names.reverse.map fun n=>fun G v=>As7 G n v) f):∀(A:Bs) (G:Env) (g:Heap) (s:Ad) (B:List Addr) (Z:Mu) (J:List (Addr×Hd)) (V:Sl) (d:List MV) (v:List Ac) (V':Sl) (Z':Mu) (Q:Unit->Ad->Prop) (E:Ac->Ad->Prop),
  AOk A k ((G.locals,HK.ns)::J.map kd)->St c S G g s B Z J V->VRs g B d v->f V Z d=some (V',Z')->
  KB c S G g s B Z' J V' (Q ())->A1 c.M A (assignInOrder (names.reverse.map fun n=>As7 G n) v) Q E s:=by
 intro A G g s B Z J V d v V' Z' Q E P T r e X;have:=h A G g s B Z J V d v V' Z' Q E P T r e X;rw[F6] at this;exact this
theorem VRs.reverse {g:Heap}{B:List Addr}{l:List MV}{vs:List Ac}(r:VRs g B l vs):VRs g B l.reverse vs.reverse:=
 r.ind (P:=fun l vs=>VRs g B l.reverse vs.reverse) .nil (fun a _ i=>Eq.mpr (congr (congrArg (VRs g B) Iz) Iz) (i.append (.cons a .nil)))
theorem Az0 {elts:List Expr}{kk:Nat}{tpos pos:Pos}{m:Expr}{a:EM}{names:List Str}{f:TsM}(M:SE c k S m a)(d:STs c k S (names.reverse.map fun n=>fun G v=>As7 G n v) f)
  (U:Fo m (some (.Tuple elts kk tpos)) pos.line (O0 S)=pure false)(O:Gd [.Tuple elts kk tpos] m (O0 S)=pure (some names)):SX c k S (.Assign [.Tuple elts kk tpos] m pos) (Cp a (swT names.length f)):=by
 intro A G g s B Z J V fl V' Z' Q E w T e X;have P:=w.1;refine Aa fun r=>?_;refine Aw e fun q W e=>?_;refine E4 e fun z D e=>?_;cases e;refine Aw D fun l t D=>?_;refine r ?_;have N:=(Am D).1;replace D:=(Am D).2;refine Assign_Tuple_swapped (names:=names) (M A G g s B Z J V q.1 q.2 _ E P T W fun u s1z L v Y I F=>?_) ?_ ?_
 ·refine I.unpack P.hh F t N fun gb j vs i H h=>?_;exact Azw d A G gb j L q.2 J V l.reverse vs.reverse _ _ _ E P H h.reverse D fun b p C R o=>X b p C _ ((Y.trans i).trans R) o .next
 ·show Fo m (some (Expr.Tuple elts kk tpos)) pos.line G=pure false;exact U
 ·rw[Gr T.kind T.sc];exact O
noncomputable def H5 (a:EM):SM:=fun V Z=>(a V Z).map fun x=>(.next,V,x.2)
theorem Js {e:Expr}{pos:Pos}{a:EM}(M:SE c k S e a)(U:Fo e none pos.line (O0 S)=pure false):SX c k S (.Expr e pos) (H5 a):=by
 intro A G g s B Z J V fl V' Z' Q E l T e X;refine Aa fun P=>?_;refine E4 e fun z W e=>?_;cases e;refine P ?_;refine wpAny_Expr_any (M A G g s B Z J V z.1 z.2 _ E l.1 T W fun u s1z L v Y I F=>X u s1z L _ Y I .next) ?_ ?_
 ·unfold interactive;rw[T.kind];rfl
 ·rw[I9 T.kind T.sc];exact U
noncomputable def O6 (a:EM):SM:=fun V Z=>(a V Z).map fun x=>(.ret x.1,V,x.2)
theorem Jo {e:Expr}{pos:Pos}{a:EM}(M:SE c k S e a):SX c k S (.Return (some e) pos) (O6 a):=by
 intro A G g s B Z J V fl V' Z' Q E l T e X;refine Aa fun y=>?_;refine E4 e fun b W e=>?_;cases e;refine y ?_;exact wpAny_Return_some (M A G g s B Z J V b.1 b.2 _ E l.1 T W fun u s1z L v Y I F=>X u s1z L _ Y I (.ret F))
noncomputable def A39:SM:=fun V Z=>some (.ret (.p .none),V,Z)
theorem Azz {pos:Pos}:SX c k S (.Return none pos) A39:=by
 intro A G g s B Z J V fl V' Z' Q E l T e X;have P:=l.1;replace X:=X.cast e;exact wpAny_Return_none (X g s B _ (Ev.refl _ _ _) T (.ret (.p .none)))
noncomputable def A5n:SM:=fun V Z=>some (.brk,V,Z)
theorem Auc {pos:Pos}:SX c k S (.Break pos) A5n:=by
 intro A G g s B Z J V fl V' Z' Q E l T e X;have P:=l.1;replace X:=X.cast e;exact wpAny_Break (X g s B _ (Ev.refl _ _ _) T .brk)
noncomputable def B5 (f r:SM):SM:=fun V Z=>(f V Z).bind fun x=>match x.1 with
 | .next=>r x.2.1 x.2.2
 |fl=>some (fl,x.2.1,x.2.2)
noncomputable def E5:SM:=fun V Z=>some (.next,V,Z)
theorem Ce:SXs c k S [] E5:=by
 intro A G g s B Z J V fl V' Z' Q E l T e X;have P:=l.1;replace X:=X.cast e;show A1 c.M A (pure Flow.next) Q E s;exact Al (X g s B _ (Ev.refl _ _ _) T .next)
theorem KX.ev {S:Sg}{G:Env}{g:Heap}{s:Ad}{B:List Addr}{Z':Mu}{J:List (Addr×Hd)}{V':Sl}{fl:Fl}{Q:Flow->Ad->Prop}(h:KX c S G g s B Z' J V' fl Q){u:Heap}{s1z:Ad}{L:List Addr}(f:Ev g s B u s1z L):KX c S G u s1z L Z' J V' fl Q:=fun b p C w R=>h b p C w (f.trans R)
theorem Bf {x:Stmt}{r:List Stmt}{f q:SM}(U:SX c k S x f)(O:SXs c k S r q):SXs c k S (x::r) (B5 f q):=by
 intro A G g s B Z J V fl V' Z' Q E l T e X;refine Aw e fun y W e=>?_;refine Ag (U A G g s B Z J V y.1 y.2.1 y.2.2 _ E l T W fun u s1z L w K I F=>?_);generalize y.1=z at e F;cases F with
 |next=>exact O A G u s1z L y.2.2 J y.2.1 fl V' Z' Q E l I e (X.ev K)
 |brk=>exact Al (X.cast e u s1z L _ K I .brk)
 |cont=>exact Al (X.cast e u s1z L _ K I .cont)
 |ret r=>exact Al (X.cast e u s1z L _ K I (.ret r))
noncomputable def ifX (t:BM)(a b:SM):SM:=fun V Z=>(t V Z).bind fun x=>if x.1=true then a V x.2 else b V x.2
theorem So {t:Expr}{a b:List Stmt}{pos:Pos}{f:BM}{fa p:SM}(d:SB c k S t f)(M:SXs c k S a fa)(Y:SXs c k S b p):SX c k S (.If t a b pos) (ifX f fa p):=by
 intro A G g s B Z J V fl V' Z' Q E l T e X;refine Aw e fun z W e=>?_;obtain⟨x,n⟩:=z;refine wpAny_If (d A G g s B Z J V x n _ E l.1 T W fun u s1z L K I=>?_);cases x with
 |true=>
  exact M A G u s1z L n J V fl V' Z' Q E l I e fun gb j q w i H r=>X gb j q w (K.trans i) H r
 |false=>
  exact Y A G u s1z L n J V fl V' Z' Q E l I e fun gb j q w i H r=>X gb j q w (K.trans i) H r
noncomputable def F8 (t:BM)(b:SM):Nat->SM
 |0=>fun _ _=>none
 |n+1=>fun V Z=>(t V Z).bind fun x=>if x.1=true then(b V x.2).bind fun y=>(match y.1 with
   | .next=>F8 t b n y.2.1 y.2.2
   | .cont=>F8 t b n y.2.1 y.2.2
   | .brk=>some (.next,y.2.1,y.2.2)
   | .ret v=>some (.ret v,y.2.1,y.2.2)) else some (.next,V,x.2)
theorem Alg (t:BM)(b:SM)(n:Nat)(V:Sl)(Z:Mu):F8 t b (n+1) V Z=(t V Z).bind fun x=>if x.1=true then(b V x.2).bind fun y=>(match y.1 with
   | .next=>F8 t b n y.2.1 y.2.2
   | .cont=>F8 t b n y.2.1 y.2.2
   | .brk=>some (.next,y.2.1,y.2.2)
   | .ret v=>some (.ret v,y.2.1,y.2.2)) else some (.next,V,x.2):=rfl
theorem Abn {a:Expr}{body:List Stmt}{A:Bs}{G:Env}{R:Ic->Ad->Prop}{s:Ad}
  (h:A1 c.M A (isTrue a G (eval a G)) (fun b s1z=>if b=true then A1 c.M A (execs body G) (fun f j=>match f with
   | .next=>I1 c.M A (.whileLoop a body [] G) R j
   | .cont=>I1 c.M A (.whileLoop a body [] G) R j
   | .brk=>R (.ok .next) j
   | .ret v=>R (.ok (.ret v)) j) (fun _ _=>False) s1z else R (.ok .next) s1z) (fun _ _=>False) s):I1 c.M A (.whileLoop a body [] G) R s:=by
 refine codeAny_of_tree ?_;show A1 c.M A ((whileTurn a body [] G).onRaise _) _ _ s;refine wpAny_onRaise ?_;refine Ag (Do h (fun b s1z K=>?_) fun _ _ e=>e.elim);cases b with
 |true=>
  refine Ag (Do K (fun f j i=>?_) fun _ _ e=>e.elim);cases f with
  |next=>exact Al ⟨rfl,i⟩
  |cont=>exact Al ⟨rfl,i⟩
  |brk=>exact Al i
  |ret v=>exact Al i
 |false=>
  rw[if_neg (by decide)] at K |-
  exact Ag (Al (Al K))
noncomputable def Atv (c:Cx)(k:Nat)(S:Sg)(P:Bs->Env->(Ic->Ad->Prop)->Ad->Prop)(f:SM):Prop:=∀(A:Bs) (G:Env) (g:Heap) (s:Ad) (B:List Addr) (Z:Mu) (J:List (Addr×Hd)) (V:Sl) (fl:Fl) (V':Sl) (Z':Mu) (R:Ic->Ad->Prop),
 Aiw A k G ((G.locals,HK.ns)::J.map kd)->St c S G g s B Z J V->f V Z=some (fl,V',Z')->KX c S G g s B Z' J V' fl (fun w s'=>R (.ok w) s')->P A G R s
theorem Aa2 {a:Expr}{body:List Stmt}{pos:Pos}{t:BM}{b:SM}(n:Nat)(d:SB c k S a t)(Y:SXs c k S body b):SX c k S (.While a body [] pos) (F8 t b n):=by
 have m:∀n,Atv c k S (fun A G R s=>I1 c.M A (.whileLoop a body [] G) R s) (F8 t b n):=fun n=>by
  induction n with
  |zero=>exact fun A G g s B Z J V fl V' Z' R P T e=>A2 e
  |succ n O=>
   refine fun A G g s B Z J V fl V' Z' R P T e l=>Aw e fun x W e=>Abn (d A G g s B Z J V x.1 x.2 _ _ P.1 T W fun u s1z L K I=>?_);generalize x.1=z at e;cases z with
   |true=>
    refine Aw e fun y D e=>Y A G u s1z L x.2 J V y.1 y.2.1 y.2.2 _ _ P I D fun gb j q w i H h=>?_;have f:=K.trans i;generalize y.1=z at e h;cases h with
    |next=>exact O A G gb j q y.2.2 J y.2.1 fl V' Z' R P H e (l.ev f)
    |cont=>exact O A G gb j q y.2.2 J y.2.1 fl V' Z' R P H e (l.ev f)
    |brk=>exact l.cast e gb j q _ f H .next
    |ret r=>exact l.cast e gb j q _ f H (.ret r)
   |false=>exact l.cast e u s1z L _ K I .next
 intro A G g s B Z J V fl V' Z' Q E P T e X;exact wpAny_While (m n A G g s B Z J V fl V' Z' _ P T e X)
end
end
section
noncomputable abbrev FM:=List MV->Mu->Option (PV×Mu)
noncomputable def FC (c:Cx)(k:Nat)(f:Addr)(spec:FM):Prop:=
 ∀(A:Bs)(g:Heap)(s:Ad)(B:List Addr)(Z:Mu)(J:List (Addr×Hd))(C:List MV)(vs:List Ac)(r:PV)(Z':Mu)(R:Ic->Ad->Prop),
  AOk A k (J.map kd)->FSt c g s B Z J->VRs g B C vs->spec C Z=some (r,Z')->
  (∀N s' v,Ev g s B N s' B->FSt c N s' B Z' J->PR N r v->R (.ok (.ret v)) s')->I1 c.M A (.call (.ref f) ⟨vs,[]⟩) R s
section
variable {c:Cx}{k:Nat}{S:Sg}{env:Env}{g:Heap}{s:Ad}{B:List Addr}{Z:Mu}{fs:List (Addr×Hd)}{V:Sl}
noncomputable def Qe (g:Heap)(s:Ad)(W:List Addr):Heap:=sub s.heap fun b=>(g.get? b).isSome|| !(W.contains b)
theorem Ih (M:Up g s.heap)(W:List Addr):Up g (Qe g s W):=fun b o e=>by
 unfold Qe;rw[Cw,if_pos (by simp[e])];exact M _ _ e
theorem Aeu (W:List Addr):Up (Qe g s W) s.heap:=fun b o e=>by
 unfold Qe at e;rw[Cw] at e;split at e
 ·exact e
 ·exact A2 e
theorem Yj {W:List Addr}{b:Addr}(Y:b∈W)(e:g.get? b=none):(Qe g s W).get? b=none:=by
 unfold Qe;rw[Cw,if_neg (by simp[Y,e])]
theorem Wt {W:List Addr}{b:Addr}{o:Obj}(Y:b∉W)(e:s.heap.get? b=some o):(Qe g s W).get? b=some o:=by
 unfold Qe;rw[Cw,if_pos (by simp[Y])];exact e
noncomputable def Hh (c:Cx)(B:List Addr)(J:List (Addr×Hd)):List Addr:=B++(J.map (·.1)++c.tabs.map (·.tab))
theorem FSt.call (F:FSt c g s B Z fs):FSt c (Qe g s (Hh c B fs)) s B Z fs where
 keep:=Aeu _
 bare:=F.bare
 len:=F.len
 mu:=fun i o a H M=>by
  have b:=F.mu i o a H M;have U:=b.1;have O:=b.2;exact⟨Yj (by unfold Hh;simp[Bo M]) U,O.up (Ih F.keep _) fun _ e=>e⟩
 dead:=fun i a U O=>(F.dead i a U O).elim fun o e=>⟨o,Ih F.keep _ _ _ e⟩
 nd:=F.nd
 liv:=F.liv
 fr:=fun q hq=>by
  obtain⟨U,z⟩:=F.fr q hq;exact⟨U,Yj (by unfold Hh;simp only[B6];exact .inr (.inl (C6 hq))) z.1,z.2⟩
 fnd:=F.fnd
 top:=F.top.up (Ih F.keep _)
 tab:=fun q hq=>by
  obtain⟨U,ps,W⟩:=F.tab q hq;have O:=W.1;have C:=W.2;exact⟨Yj (by unfold Hh;simp only[B6];exact .inr (.inr (C6 hq))) U,ps,O,C.up (Ih F.keep _)⟩
 tnd:=F.tnd
noncomputable abbrev UpN (g h:Heap):Prop:=∀b o,g.get? b=some o->(∀D,o.data≠.cell D)->h.get? b=some o
theorem Ac6 {g h:Heap}(u:UpN g h):UpS g h:=fun b o e ⟨i,n,d⟩=>u b o e fun D q=>by rw[d] at q;cases q
theorem MR.ups {g N h:Heap}(u:UpS g N){a:Addr}{o:MO}:MR g h a o->MR N h a o:=fun r=>by
 induction r with
 |lst t r=>exact .lst t (r.ups u)
 |wl t r=>exact .wl t (r.ups u)
 | @dct l m n q k=>
  refine .dct n q fun x=>?_;have q:=k x
  revert q
  cases l.lookup x with
  |some d=>exact fun q=>q.elim fun v k=>⟨v,k.1,k.2.ups u⟩
  |none=>exact id
theorem Sp.upN {q:Dx}{ps:Array Ac}{g h:Heap}(u:UpN g h)(x:Sp q ps g):Sp q ps h:=
 ⟨x.tri,fun pos d e=>⟨(x.rec_ pos d e).1,(x.rec_ pos d e).2.elim fun c' k=>k.elim fun o k=>k.elim fun vs k=>k.elim fun t k=>⟨c',o,vs,t,k.1,u _ _ k.2.1 (fun D q=>nomatch k.2.2.1.symm.trans q),k.2.2⟩⟩⟩
noncomputable def I3 (S:Sg)(G:Env):List Addr:=S.vars.filterMap fun p=>match p.2 with
 | .own=>G.cells.lookup p.1
 |_=>none
theorem Xe {i:Nat}{x:Str}{a:Addr}(h:S.vars[i]?=some (x,.own))(e:env.cells.lookup x=some a):a∈I3 S env:=by
 unfold I3;rw[Ig];exact⟨_,Bo h,e⟩
theorem Acn {a:Addr}(h:a∈I3 S env):∃(i:Nat) (x:Str),S.vars[i]?=some (x,.own)/\env.cells.lookup x=some a:=by
 unfold I3 at h;rw[Ig] at h;refine Aa fun P=>?_;obtain⟨⟨x,vk⟩,z,e⟩:=h;obtain⟨i,H⟩:=Hf z;refine P ?_;cases vk with
 |own=>exact exi2 i x ⟨H,e⟩
 |loc=>cases e
 |cap=>cases e
theorem St.called (T:St c S env g s B Z fs V){m:Str->Option Ac}(z:s.heap.Ns env.locals m){gb:Heap}{s':Ad}{Z':Mu}(f:Ev (Qe g s (Hh c B ((env.locals,.ns m)::fs))) s B gb s' B)(Y:FSt c gb s' B Z' ((env.locals,.ns m)::fs)):
  ∃gc,Ev g s B gc s' B/\St c S env gc s' B Z' fs V/\UpN gb gc:=by
 refine Aa fun y=>?_;obtain⟨mz,F,P⟩:=T.fst;have e:m=mz:=by funext x;exact z.agree (F.fr _ (.head _)).1 x
 subst e;refine y ?_
 let gc:=sub s'.heap fun b=>(gb.get? b).isSome&& !((I3 S env).contains b)
 have own1:∀a∈I3 S env,a∉B:=fun a M hBz=>by
  obtain⟨i,x,U,O⟩:=Acn M;obtain⟨_,a',ov,C,G,R,_⟩:=T.own i x U;rw[O] at C;cases C;obtain⟨j,E⟩:=Hf hBz;cases L:Z[j]? with
  |none=>
   have r:=(Aq.mp E).1;rw[F.len] at r;rw[Ep] at L;exact C0 L r
  |some w=>
   cases w with
   |none=>obtain⟨o,e⟩:=F.dead j a L E;cases G.symm.trans e
   |some o=>exact(F.mu j o a L E).2.notCell R
 have own2:∀a∈I3 S env,g.get? a=none/\∃ov,s.heap.IsCell a ov/\gb.IsCell a ov:=fun a M=>by
  obtain⟨i,x,U,O⟩:=Acn M;obtain⟨_,a',ov,C,G,R,_⟩:=T.own i x U;rw[O] at C;cases C;refine⟨G,ov,R,?_⟩;obtain⟨J,Q,dc⟩:=R;refine⟨J,f.up _ _ (Wt ?_ Q),dc⟩;unfold Hh;simp only[B6,qk,Av];rintro (h|(h|h)|h)
  ·exact own1 a M h
  ·exact Jj z Q (fun X I q=>by rw[dc] at q;cases q) h
  ·obtain⟨q,hq,rfl⟩:=Bj.mp h;exact(F.fr q (.tail _ hq)).1.nec ⟨J,Q,dc⟩ rfl
  ·refine Aa fun t=>?_;obtain⟨q,hq,rfl⟩:=Bj.mp h;obtain⟨_,ps,zz30⟩:=F.tab q hq;have r:=zz30.1;refine t ?_;rw[Q] at r;cases r;cases dc
 have un:UpN gb gc:=fun b o e K=>by
  rw[Cw,if_pos]
  ·exact Y.keep _ _ e
  ·simp only[e,Jn,Fv,Fn,Iy,decide_eq_false_iff_not];intro M;obtain⟨_,ov,_,J,Q,dc⟩:=own2 b M;rw[e] at Q;cases Q;exact K _ dc
 have A:Up g gc:=fun b o e=>by
  rw[Cw,if_pos]
  ·exact Y.keep _ _ (f.up _ _ (Ih F.keep _ _ _ e))
  ·simp only[(f.up _ _ (Ih F.keep _ _ _ e)),Jn,Fv,Fn,Iy,decide_eq_false_iff_not];intro M;have:=(own2 b M).1;cases e.symm.trans this
 have n:∀b,gb.get? b=none->gc.get? b=none:=fun b e=>by
  rw[Cw,if_neg (by simp[e])]
 have l:FSt c gc s' B Z' ((env.locals,.ns m)::fs):=by
  refine⟨fun b o e=>?_,Y.bare,Y.len,fun i o a H M=>?_,fun i a H M=>?_,Y.nd,Y.liv,fun q hq=>?_,Y.fnd,F.top.up A,fun q hq=>?_,Y.tnd⟩
  ·rw[Cw] at e;split at e
   ·exact e
   ·exact A2 e
  ·obtain⟨U,O⟩:=Y.mu i o a H M;exact⟨n _ U,O.ups (Ac6 un)⟩
  ·obtain⟨o,e⟩:=Y.dead i a H M;refine⟨o,?_⟩;rw[Cw,if_pos]
   ·exact Y.keep _ _ e
   ·simp only[e,Jn,Fv,Fn,Iy,decide_eq_false_iff_not];exact fun h=>own1 a h (Bo M)
  ·obtain⟨U,O,C⟩:=Y.fr q hq;exact⟨U,n _ O,C⟩
  ·obtain⟨U,ps,zz21⟩:=Y.tab q hq;exact⟨n _ U,ps,zz21.1,zz21.2.upN un⟩
 refine⟨gc,Ev.same A f.os,?_,un⟩;refine⟨T.kind,T.glob,T.blt,T.sc,⟨m,l,fun i x d U O=>?_⟩,T.loc,fun i x h=>?_,T.inj,fun i x d U O=>?_,T.names,T.len,T.known⟩
 ·obtain⟨v,C,G⟩:=P i x d U O;exact⟨v,C,G.up A (Bi _)⟩
 ·refine Aa fun zk13=>?_;obtain⟨U,a,ov,zz14⟩:=T.own i x h;have O:=zz14.1;have C:=zz14.2.1;have G:=zz14.2.2.1;have R:=zz14.2.2.2;obtain⟨_,ov',p⟩:=own2 a (Xe h O);obtain⟨o1,W,u⟩:=p.1;obtain⟨o2,D,d2⟩:=p.2;obtain⟨o3,zz7⟩:=G;have N:=zz7.1;have d3:=zz7.2;refine zk13 ?_;rw[N] at W;cases W;rw[d3] at u;cases u;refine⟨U,a,ov,O,?_,⟨o2,Y.keep _ _ D,d2⟩,fun d hd=>(R d hd).elim fun v k=>⟨v,k.1,k.2.up A (Bi _)⟩⟩;rw[Cw,if_neg (by simp[(Xe h O)])]
 ·obtain⟨C,a,v,zz4⟩:=T.cap i x d U O;exact⟨C,a,v,zz4.1,zz4.2.1.keeps A,zz4.2.2.up A (Bi _)⟩
theorem St.calledE (T:St c S env g s B Z fs V){m:Str->Option Ac}(R:s.heap.Ns env.locals m){gb:Heap}{s':Ad}{Z':Mu}(f:Ev (Qe g s (Hh c B ((env.locals,.ns m)::fs))) s B gb s' B)(Y:FSt c gb s' B Z' ((env.locals,.ns m)::fs)){G:Prop}(k:∀b,Ev g s B b s' B->St c S env b s' B Z' fs V->UpN gb b->G):G:=(St.called (m:=m) (gb:=gb) (s':=s') (Z':=Z') T R f Y).elim fun b z=>k b z.1 z.2.1 z.2.2
end
end
section
section
variable {c:Cx}{k:Nat}{S:Sg}{env:Env}{g:Heap}{s:Ad}{B:List Addr}{Z:Mu}{fs:List (Addr×Hd)}{V:Sl}
theorem FSt.stay (F:FSt c g s B Z fs){s':Ad}(u:Up s.heap s'.heap)(Y:Lf s'.gens):FSt c g s' B Z fs:=
 ⟨F.keep.trans u,Y,F.len,fun i o a H M=>⟨(F.mu i o a H M).1,(F.mu i o a H M).2.up Up.rfl fun x e=>u _ _ e⟩,F.dead,F.nd,fun a M=>(F.liv a M).elim fun o e=>⟨o,u _ _ e⟩,
  fun q hq=>⟨(F.fr q hq).1.keeps u,(F.fr q hq).2.1,(F.fr q hq).2.2⟩,F.fnd,F.top,fun q hq=>(F.tab q hq).elim fun U k=>k.elim fun ps k=>⟨U,ps,u _ _ k.1,k.2⟩,F.tnd⟩
theorem Hl {h:Heap}(u:Up g h){a:Addr}(M:h.objs.size<=a):g.get? a=none:=by
 cases e:g.get? a with
 |none=>rfl
 |some o=>exact absurd M (Ry.mpr (D5 (u _ _ e)))
noncomputable def Ahi (S:Sg):Bool:=S.known.isEmpty&&decide (S.vars.map (·.1)).Nodup&&S.vars.all fun p=>match p.2 with
 | .loc=>S.names.lookup p.1==some .local
 | .own=>S.names.lookup p.1==some .cell
 | .cap=>false
theorem R3 {x:Str}:∀(names:List (Str×Eb)) (n:Nat) (g:List (Str×Addr)),names.lookup x=some .cell->((G8 n names g).lookup x).isSome=true:=fun names n g h=>cellsFrom_some names n g (.inl h)
theorem FSt.enter (F:FSt c g s B Z fs){D:M6}{m:Str}{f:Addr}{code:Ac}(hk:D.kind=.function)(K:D.names=S.names)(Q:Ahi S=true)(t:Obj)(p:t={cls:=.type "frame",data:=.dict #[]}):
  St c S (Z7 D s.heap.objs.size Di (G8 (s.heap.objs.size+1) D.names []) m (some f) code none F2) g {s with heap:=Jb (s.heap.push t) D.names} B Z fs (Bb S.vars.length none):=by
 subst p;unfold Ahi at Q;rw[A0,A0] at Q;have H:=Q.1.1;have w:=of_decide_eq_true Q.1.2;have l:=Bd.mp Q.2;have k:=cellsFrom_ok D.names (s.heap.push {cls:=.type "frame",data:=.dict #[]}) (s.heap.objs.size+1) [] ⟨fun _ _ z=>(nomatch z),Ait⟩ (by rw[Fx];exact At _)
 rw[Fx] at k;have A:Up s.heap (Jb (s.heap.push {cls:=.type "frame",data:=.dict #[]}) D.names):=fun b o e=>X5 _ _ b o (E6 _ _ b o e)
 have N:=F.stay (s':={s with heap:=Jb (s.heap.push {cls:=.type "frame",data:=.dict #[]}) D.names}) A F.bare
 have E:(Jb (s.heap.push {cls:=.type "frame",data:=.dict #[]}) D.names).Ns s.heap.objs.size fun _=>none:=(Aog s.heap (.type "frame")).keeps (X5 _ _)
 have n:∀a,s.heap.objs.size<=a->g.get? a=none:=fun a M=>Hl F.keep M;refine⟨hk,rfl,rfl,K,⟨fun _=>none,⟨N.keep,N.bare,N.len,N.mu,N.dead,N.nd,N.liv,fun q hq=>?_,?_,N.top,N.tab,N.tnd⟩,fun i x d U O=>?_⟩,fun i x h=>?_,fun i x h=>?_,fun i j x y a U O C G=>?_,fun i x d U O=>?_,w,by simp,fun x a h=>by rw[Ta.mp H] at h;cases h⟩
 ·rcases Av.mp hq with rfl|hq
  ·exact⟨E,n _ (At _),fun h=>by obtain⟨o,e⟩:=F.liv _ h;exact absurd (D5 e) (Em _)⟩
  ·exact N.fr q hq
 ·rw[qk,C4];refine⟨fun h=>?_,F.fnd⟩;obtain⟨q,hq,e⟩:=Bj.mp h;have:=(F.fr q hq).1.lt;rw[e] at this;exact Em _ this
 ·rw[Aof] at O;split at O<;>cases O
 ·have:=l _ (Bo h);show D.names.lookup x=_;rw[K];simpa using this
 ·have I:=l _ (Bo h);have U:D.names.lookup x=some .cell:=by rw[K];simpa using I
  obtain⟨a,M⟩:=Dh.mp (R3 D.names (s.heap.objs.size+1) [] U);have r:=k.empty _ _ (mem_of_lookup M);have O:=r.1;have C:=r.2;exact⟨U,a,none,M,n a (Ba (by assumption)),O,fun d hd=>by rw[Aof] at hd;split at hd<;>cases hd⟩
 ·have e:=name_of_addr k.apart (mem_of_lookup C) (mem_of_lookup G);subst e;refine Vt w (a:=x) ?_ ?_
  ·rw[B0,U];rfl
  ·rw[B0,O];rfl
 ·have:=l _ (Bo U);simp at this
theorem St.binds {f:Str×Ac->PUnit->Sem (ForInStep PUnit)}(O:∀n v u,f (n,v) u=(do Alu env n v;pure (.yield ⟨⟩))){A:Bs}{E:Ac->Ad->Prop}(xs:List MV):∀(vs:List Ac) (ns:List Str) (i:Nat) (s:Ad) (V:Sl) (Q:PUnit->Ad->Prop),
  St c S env g s B Z fs V->VRs g B xs vs->ns.length=xs.length->
  (∀(j:Nat)(x:Str),ns[j]?=some x->∃vk,S.vars[i+j]?=some (x,vk)/\vk≠.cap)->
  (∀s',Ev g s B g s' B->St c S env g s' B Z fs ((xs.zipIdx i).foldl (fun V p=>V.set p.2 (some p.1)) V)->Q ⟨⟩ s')->A1 c.M A (Adl (ns.zip vs) ⟨⟩ f) Q E s:=by
 induction xs with
 |nil=>
  intro vs ns i s V Q T r N F h;have K:ns=[]:=List.eq_nil_of_length_eq_zero N;subst K;exact Al (h s (Ev.refl _ _ _) T)
 |cons x xs J=>
  intro vs ns i s V Q T r N F h;cases ns with
  |nil=>simp at N
  |cons n ns=>
   cases r with
   |cons a z=>
    rw[List.zip_cons_cons,Iw,O];obtain⟨vk,L⟩:=F 0 n rfl;refine Ag (Ag (T.store (i:=i) (by simpa using L.1) L.2 a fun s' e t=>Al ?_));refine J _ ns (i+1) s' _ Q t z (by simpa using N) (fun j y D=>?_) fun W m H=>h W (e.trans m) (by simpa[List.zipIdx_cons] using H);obtain⟨vk',C,G⟩:=F (j+1) y (D);exact⟨vk',by rw[show i+1+j=i+(j+1) from(Dg _ _ _)];exact C,G⟩
noncomputable def frz (n:Nat)(Z:Mu):MV->Option PV
 | .p x=>some x
 | .mu i=>if n<=i then(match Z[i]? with
  |some (some (.lst l))=>some (.list l)
  |_=>none) else none
 | .tup _=>none
noncomputable def L1 (n:Nat)(C:List MV):Sl:=(C.zipIdx 0).foldl (fun V p=>V.set p.2 (some p.1)) (Bb n none)
noncomputable abbrev SF:=Sl->Mu->Option (Fl×Mu)
noncomputable def A78 (f:SM):SF:=fun V Z=>(f V Z).map fun x=>(x.1,x.2.2)
noncomputable def Ave (n:Nat)(fl:Fl)(m:Mu):Option (PV×Mu):=match fl with
 | .ret v=>(frz n m v).map fun r=>(r,m.take n)
 | .next=>some (.none,m.take n)
 |_=>none
noncomputable def Abg (np n:Nat)(f:SF):FM:=fun C Z=>if C.length=np then(f (L1 n C) Z).bind fun x=>Ave Z.length x.1 x.2 else none
noncomputable def Fq (np n:Nat)(f:SM):FM:=Abg np n (A78 f)
theorem FSt.leave {μ₀:Mu}{s:Ad}{h:Heap}(d:FSt c h s B μ₀ fs){s1z:Ad}{N:Heap}{s':Ad}{I:List Addr}{Z':Mu}{L:Addr}{m:Str->Option Ac}(n:Up s.heap s1z.heap)(p:s1z.os=s.os)(f:Ev h s1z B N s' I)(F:FSt c N s' I Z' ((L,.ns m)::fs)):
  ∃gb,Ev h s B gb s' B/\FSt c gb s' B (Z'.take μ₀.length) fs/\Up N gb/\(∀a o,a∉Hh c B fs->s'.heap.get? a=some o->gb.get? a=some o):=by
 let gb:=sub s'.heap fun b=>(N.get? b).isSome|| !(Hh c B fs).contains b
 have A:Up N gb:=fun b o e=>by
  rw[Cw,if_pos (by simp[e])];exact F.keep _ _ e
 have z:∀a,N.get? a=none->a∈Hh c B fs->gb.get? a=none:=fun a U O=>by
  rw[Cw,if_neg (by simp[U,O])]
 refine⟨gb,Ev.same (f.up.trans A) (f.os.trans p),?_,A,fun a o U O=>?_⟩
 ·have K:B.length=μ₀.length:=d.len;refine⟨fun b o e=>?_,F.bare,?_,fun i o a H M=>?_,fun i a H M=>?_,d.nd,fun a M=>?_,fun q hq=>?_,d.fnd,F.top.up A,fun q hq=>?_,F.tnd⟩
  ·rw[Cw] at e;split at e
   ·exact e
   ·exact A2 e
  ·rw[Ef];have:=f.pre.length_le;rw[F.len] at this;lia
  ·rw[J0] at H;replace H:=(Am H).2;have l:=F.mu i o a H (M3 f.pre M);have U:=l.1;exact⟨z a U (by unfold Hh;simp[Bo M]),l.2.up A fun _ e=>e⟩
  ·rw[J0] at H;replace H:=(Am H).2;obtain⟨o,e⟩:=F.dead i a H (M3 f.pre M);exact(⟨o,A _ _ e⟩)
  ·exact F.liv a (f.pre.subset M)
  ·have k:=F.fr q (.tail _ hq);have U:=k.1;have O:=k.2.1;have j:=d.fr q hq;have u:=j.1;have Y:=j.2.2;exact⟨U,z _ O (by unfold Hh;simp only[B6];exact .inr (.inl (C6 hq))),Y⟩
  ·obtain⟨U,ps,g⟩:=F.tab q hq;have O:=g.1;have C:=g.2;exact⟨z _ U (by unfold Hh;simp only[B6];exact .inr (.inr (C6 hq))),ps,O,C.up A⟩
 ·rw[Cw,if_pos (by simp[U])];exact O
theorem Anc (h:(H2,HK.st)∈fs.map kd)(F:∀q∈fs,q.2.Ok s.heap q.1):s.heap.NoLimit:=by
 obtain⟨⟨a,q⟩,hq,e⟩:=Bj.mp h;cases q with
 |ns m=>cases e
 |obj o=>cases e
 |st o=>obtain⟨U,_,d,O,C⟩:=(F _ hq);dsimp only at U O;subst U;exact⟨d,O,C⟩
theorem Vu (h:(H2,HK.st)∈fs.map kd)(T:St c S env g s B Z fs V):s.heap.NoLimit:=by
 obtain⟨m,z⟩:=T.fst;exact Anc h fun q hq=>(z.1.fr q (.tail _ hq)).1
theorem A7a {L:Addr}{m:Str->Option Ac}{b:Heap}{y:Ad}{C:List Addr}{X:Mu}(I:FSt c b y C X ((L,.ns m)::fs))(f:B<+:C){g:Heap}(u:Up b g)(s:∀a o,a∉Hh c B fs->y.heap.get? a=some o->g.get? a=some o)
  {d:MV}{v:Ac}{Y:PV}{n:Nat}(G:B.length=n)(N:VR b C d v)(U:frz n X d=some Y):PR g Y v:=by
 replace N:=N.inv;cases d with
 |p x=>exact Af U▸PR.up u N
 |tup l=>exact A2 U
 |mu i=>
  obtain⟨a,rfl,M⟩:=N;have H:=(Am U).1;replace U:=(Am U).2;have z:∀o,X[i]?=some (some o)->b.get? a=none/\MR b y.heap a o:=fun o H=>I.mu i o a H M;have w:a∉B:=fun h=>by
   obtain⟨j,E⟩:=Hf h;exact Em _ (Ah (G▸H) ((Vt I.nd (M3 f E) M)▸(Aq.mp E).1))
  generalize X[i]?=q at U z;cases q with
  |none=>exact A2 U
  |some q=>cases q with
   |none=>exact A2 U
   |some o=>cases o with
    |lst l=>
     refine exe2 ((z _ rfl).2.l) fun vs k F=>?_;obtain⟨t,e⟩:=F;refine Af U▸.list (s a _ (fun h=>?_) t) (e.up u);rcases B6.mp h with h|h
     ·exact w h
     ·rcases B6.mp h with h|h
      ·obtain⟨q,hq,rfl⟩:=Bj.mp h;exact(I.fr q (.tail _ hq)).2.2 (Bo M)
      ·obtain⟨q,hq,rfl⟩:=Bj.mp h;obtain⟨_,ps,r,_⟩:=I.tab q hq;exact nomatch (show y.heap.get? q.tab=_ from t).symm.trans r
    |_=>exact A2 U
theorem AOk.enter {A:Bs}{fl:List (Addr×HK)}{L:Addr}{e:Env}(P:AOk A (k+1) fl)(hk:e.scope.kind=.function)(u:e.frame=some L):Aiw (A.deeper e) k e ((L,HK.ns)::fl):=by
 obtain⟨o,r,d⟩:=P.frames;refine⟨⟨P.hh,by show A.depth+1+k<_;rw[Dj,Cu 1];exact P.depth,Ah (by show A.units+3+10*k<=A.units+10*(k+1);rw[Dj,Lk,Cu 3];exact Ar (Ar (by decide) _) _) P.units,⟨_,Aqy r,fun x R=>?_⟩,.tail _ P.sta⟩,_,Aqy r⟩;rcases Av.mp R with rfl|R
 ·exact⟨by rw[hk];decide,L,u,.head _⟩
 ·refine Aa fun z=>?_;obtain⟨U,m,O,C⟩:=d x R;refine z ?_;exact⟨U,m,O,.tail _ C⟩
theorem Afl {u:Type}{P:List u->Prop}(h:∀a,P [a])(l:List u)(e:l.length=1):P l:=by
 cases l with
 |nil=>exact nomatch e
 |cons a l=>cases l with
  |nil=>exact h a
  |cons b l=>exact nomatch Hy e
theorem Afm {u:Type}{P:List u->Prop}(h:∀a b,P [a,b])(l:List u)(e:l.length=2):P l:=by
 cases l with
 |nil=>exact nomatch e
 |cons a l=>exact Afl (P:=fun l=>P (a::l)) (h a) l (Hy e)
theorem Aj6 {u:Type}{P:List u->Prop}(h:∀a b c,P [a,b,c])(l:List u)(e:l.length=3):P l:=by
 cases l with
 |nil=>exact nomatch e
 |cons a l=>exact Afm (P:=fun l=>P (a::l)) (h a) l (Hy e)
theorem Bat {u:Type}{P:List u->Prop}(h:∀a b c d f g,P [a,b,c,d,f,g])(l:List u)(e:l.length=6):P l:=by
 cases l with
 |nil=>exact nomatch e
 |cons a l=>cases l with
  |nil=>exact nomatch Hy e
  |cons b l=>cases l with
   |nil=>exact nomatch Hy (Hy e)
   |cons c l=>exact Aj6 (P:=fun l=>P (a::b::c::l)) (h a b c) l (Hy (Hy (Hy e)))
inductive X8 {α:Type}(P:Nat->α->Prop):Nat->List α->Prop
 |nil {n:Nat}:X8 P n []
 |cons {n:Nat}{a:α}{l:List α}:P n a->X8 P (n+1) l->X8 P n (a::l)
theorem X8.get' {u:Type}{P:Nat->u->Prop}{n:Nat}{l:List u}(h:X8 P n l):∀{i:Nat} {a:u},l[i]?=some a->P (n+i) a:=by
 induction h with
 |nil=>exact fun e=>nomatch e
 |cons p _ J=>
  intro i a e;cases i with
  |zero=>exact Af e▸p
  |succ i=>exact(Dg _ 1 i▸J e:)
theorem X8.get {u:Type}{P:Nat->u->Prop}{l:List u}(h:X8 P 0 l){i:Nat}{a:u}(e:l[i]?=some a):P i a:=Cg i▸h.get' e
structure Atq (c:Cx)(f:Addr)(o:Obj)(fd:J8)(S:Sg)(body:List Stmt)(ps:List Str):Prop where
 look:c.K.lookup f=some o
 data:o.data=.func fd
 clos:fd.closure=[]
 glob:fd.globals=Di
 blt:fd.builtins=F2
 body:fd.body=.stmts body
 code:codeIn c.K fd.code fd.qualname=true
 kind:fd.scope.kind=.function
 gen:fd.scope.isGenerator=false
 cor:fd.scope.isCoroutine=false
 names:fd.scope.names=S.names
 fits:Ahi S=true
 bind:∀vals:List Ac,vals.length=ps.length->A8j fd ⟨vals,[]⟩=pure (ps.zip vals)
 slots:∀(j:Nat) (x:Str),ps[j]?=some x->∃vk,S.vars[j]?=some (x,vk)/\vk≠.cap
noncomputable def SXE (c:Cx)(k:Nat)(S:Sg)(P:Env->Prop)(t:Env->Sem Flow)(f:SF):Prop:=
 ∀(A:Bs)(G:Env)(g:Heap)(s:Ad)(B:List Addr)(Z:List (Option MO))(J:List (Addr×Hd))(V:List (Option MV))(fl:Fl)(Z':List (Option MO))(Q:Flow->Ad->Prop)(E:Ac->Ad->Prop),
  P G->Aiw A k G ((G.locals,HK.ns)::J.map kd)->St c S G g s B Z J V->f V Z=some (fl,Z')->
  (∀N s' I V' w,Ev g s B N s' I->St c S G N s' I Z' J V'->FlR N I fl w->Q w s')->A1 c.M A (t G) Q E s
theorem SXs.toE {S:Sg}{body:List Stmt}{p:SM}{P:Env->Prop}(Y:SXs c k S body p):SXE c k S P (execs body) (A78 p):=fun A G g s B Z J V fl Z' Q E _ l T e X=>
 E4 e fun x h e=>Y A G g s B Z J V fl x.2.1 Z' Q E l T ((Prod.mk.inj e).1▸(Prod.mk.inj e).2▸h) fun N s' I w f T r=>X N s' I _ w f T r
noncomputable def A4f:Flow->Ac
 | .ret v=>v
 |_=>.none
theorem A5u {L:Addr}{m:Str->Option Ac}{b:Heap}{p:Ad}{C:List Addr}{X Z':Mu}(I:FSt c b p C X ((L,.ns m)::fs))(f:B<+:C){g:Heap}(u:Up b g)(s:∀a o,a∉Hh c B fs->p.heap.get? a=some o->g.get? a=some o)
  {fl:Fl}{w:Flow}{r:PV}{n:Nat}(h:B.length=n)(l:FlR b C fl w)(e:Ave n fl X=some (r,Z')):X.take n=Z'/\PR g r (A4f w):=by
 cases l with
 |next=>have z:=Prod.mk.inj (Af e);exact⟨z.2,z.1▸(PR.none:PR g .none .none)⟩
 |brk=>exact A2 e
 |cont=>exact A2 e
 |ret N=>exact E4 e fun Y U e=>⟨(Prod.mk.inj e).2,(Prod.mk.inj e).1▸A7a I f u s h N U⟩
theorem FSt.fin {S:Sg}{G:Env}{V:Sl}{fl:Fl}{w:Flow}{a X Z':Mu}{h b:Heap}{s s1z s3z:Ad}{C:List Addr}{r:PV}{R:Ic->Ad->Prop}(d:FSt c h s B a fs)(n:Up s.heap s1z.heap)(p:s1z.os=s.os)(f:Ev h s1z B b s3z C)
  (o:St c S G b s3z C X fs V)(l:FlR b C fl w)(e:Ave a.length fl X=some (r,Z'))(Q:∀N s' v,Ev h s B N s' B->FSt c N s' B Z' fs->PR N r v->R (.ok (.ret v)) s'):R (.ok (.ret (A4f w))) s3z:=
 o.fst.elim fun m z=>(d.leave n p f z.1).elim fun g y=>have q:=A5u z.1 f.pre y.2.2.1 y.2.2.2 d.len l e;Q g s3z _ y.1 (q.1▸y.2.1) q.2
theorem Aal {M:Mg}{A:Bs}{D:M6}{z:List (Str×Addr)}{d:List (Str×Ac)}{m:Str}{f:Addr}{code:Ac}{P:Env->Ad->Prop}{E:Ac->Ad->Prop}{s:Ad}
  (h:A1 M A (Adl d PUnit.unit fun x _=>do Alu (Z7 D s.heap.objs.size Di (G8 (s.heap.objs.size+1) D.names z) m (some f) code none F2) x.1 x.2;pure (He PUnit.unit))
   (fun _ s'=>P (Z7 D s.heap.objs.size Di (G8 (s.heap.objs.size+1) D.names z) m (some f) code none F2) s') E {s with heap:=Jb (s.heap.push {cls:=.type "frame",data:=.dict #[]}) D.names}):
  A1 M A (As9 D Di z d m (some f) code) P E s:=by
 refine Ag (wpAny_alloc ?_);refine Ag (wpAny_layCells _ (fun name kind cells=>by cases a:kind==Wa<;>simp[a]) _ _ _ _ ?_);rw[Fx];exact Ag (Do h (fun _ _ h=>Al h) fun _ _ h=>h)
theorem Anr {S:Sg}{f:Addr}{fd:J8}{body:List Stmt}{P:Env->Prop}{K:SF}{ps:List Str}{z:List (Str×Addr)}{t:Sl}{A:Bs}{R:Ic->Ad->Prop}{C:List MV}{vs:List Ac}{I:Heap}{x:Fl×Mu}{r:PV}{Z':Mu}{n:Nat}
  (l:AOk A (k+1) (fs.map kd))(F:FSt c g s B Z fs)(u:Up s.heap I)(T:St c S (Z7 fd.scope n Di z (fd.qualname++".<locals>.") (some f) fd.code none F2) g {s with heap:=I} B Z fs t)
  (i:VRs g B C vs)(N:C.length=ps.length)(M:∀(j:Nat)(x:Str),ps[j]?=some x->∃vk,S.vars[j]?=some (x,vk)/\vk≠.cap)(hk:fd.scope.kind=.function)(Y:SXE c k S P (execs body) K)
  (U:P (Z7 fd.scope n Di z (fd.qualname++".<locals>.") (some f) fd.code none F2))(W:K ((C.zipIdx 0).foldl (fun V p=>V.set p.2 (some p.1)) t) Z=some x)(D:Ave Z.length x.1 x.2=some (r,Z'))
  (Q:∀h s' v,Ev g s B h s' B->FSt c h s' B Z' fs->PR h r v->R (.ok (.ret v)) s'):
  A1 c.M A.in1 (Adl (ps.zip vs) PUnit.unit fun x _=>do Alu (Z7 fd.scope n Di z (fd.qualname++".<locals>.") (some f) fd.code none F2) x.1 x.2;pure (He PUnit.unit))
   (fun _ d=>d.heap.NoLimit∧I1 c.M A (.func body (Z7 fd.scope n Di z (fd.qualname++".<locals>.") (some f) fd.code none F2)) R d) (fun e s'=>R (.error e) s') {s with heap:=I}:=
 St.binds (fun n v u=>rfl) C vs ps 0 _ _ _ T i N.symm (fun j x E=>(Cg j).symm▸M j x E) fun d G H=>⟨Vu l.sta H,codeAny_func (Y _ _ g d B Z fs _ x.1 x.2 _ _ U (l.enter hk rfl) H W fun b y m a w O o q=>F.fin (s1z:={s with heap:=I}) u rfl (G.trans O) o q D Q)⟩
theorem Ac7 {o:Obj}{names:List (Str×Eb)}:Up s.heap (Jb (s.heap.push o) names):=fun b o e=>X5 _ _ b o (E6 _ _ b o e)
theorem Agg {f:Addr}{o:Obj}{fd:J8}{S:Sg}{body:List Stmt}{ps:List Str}{p:SF}(D:Atq c f o fd S body ps)(Y:SXE c k S (fun G=>G.code=fd.code∧G.qual=fd.qualname++".<locals>.") (execs body) p):FC c (k+1) f (Abg ps.length S.vars.length p):=by
 intro A g s B Z J C vs r Z' R P F i e Q;have N:=(Am e).1;refine Aw (Am e).2 fun x W L=>?_;refine Zf (Ah (Bl _ _) P.depth) (F.keep _ _ (F.top.k _ _ D.look)) D.data D.cor D.gen D.body ((Bbw (F.top.k) D.code).keeps F.keep) ?_;rw[D.bind vs (i.length▸N),D.clos,D.glob,D.blt];exact Al (Aal (Anr P F Ac7 (F.enter D.kind D.names D.fits _ rfl) i N D.slots D.kind Y ⟨rfl,rfl⟩ W L Q))
theorem X9 {f:Addr}{o:Obj}{fd:J8}{S:Sg}{body:List Stmt}{ps:List Str}{p:SM}(D:Atq c f o fd S body ps)(Y:SXs c k S body p):FC c (k+1) f (Fq ps.length S.vars.length p):=Agg D Y.toE
end
end
section
section
variable {c:Cx}{k:Nat}{S:Sg}
theorem Fb (pos:Pos)(l:List (Bool×Sem Ac)):(Aed pos l).any (·.1)=l.any (·.1):=by
 unfold Aed;rw[Aar];rfl
theorem Dr {M:Mg}{A:Bs}{E:Ac->Ad->Prop}{s:Ad}{f:Ac}{Q:Args->Ad->Prop}:∀{t:List (Bool×Sem Ac)},t.any (·.1)=false->A1 M A (spliced t) (fun vs s'=>Q ⟨vs,[]⟩ s') E s->A1 M A (evalArgs f true t []) Q E s
 |[],_,h=>by
  refine Ag (Do h (fun vs s' h'=>?_) fun _ _ x=>x);refine Ag (Al ?_);refine Ci ?_;exact Ag (Al (Ag (Al (Al h'))))
 |(false,x)::rest,_,h=>evalArgs_plain h
 |(true,x)::rest,O,_=>by simp at O
noncomputable def Cm (f:List MV->Mu->Option (MV×Mu))(a:LM):EM:=fun V Z=>(a V Z).bind fun x=>f x.1 x.2
noncomputable def fcF (spec:FM):List MV->Mu->Option (MV×Mu):=fun xs Z=>(spec xs Z).map fun r=>(.p r.1,r.2)
theorem Kt {a:Addr}{spec:FM}(h:FC c k a spec):ON c k (fun vs=>call (.ref a) vs) (fcF spec):=by
 intro S A G g s B Z J V xs vs d Z' Q E P T i e X;refine Aa fun C=>?_;refine E4 e fun l W e=>?_;cases e;obtain⟨m,z,F⟩:=T.ns';refine C ?_;refine Aee (h A _ s B Z ((G.locals,.ns m)::J) xs vs l.1 _ _ P F.call (i.up (Ih F.keep (Hh c B ((G.locals,.ns m)::J))) (Bi _)) W fun gb s' v f Y j=>?_);refine Aa fun r=>?_;refine T.calledE z f Y fun b O o u=>?_;refine r ?_;exact X b s' B v O o (.p (j.ups (Ac6 u)))
theorem Hg {x:Str}{p pos:Pos}{C:List Expr}{a:Addr}{o:Obj}{fd:J8}{t:LM}{f:List MV->Mu->Option (MV×Mu)}(N:SL c k S C t)(O:ON c k (fun vs=>call (.ref a) vs) f)
  (R:S.names.lookup x=some .globalImplicit)(z:c.mg x=some (.ref a))(y:c.K.lookup a=some o)(hd:o.data=.func fd)(l:∀G,(E7 C G).any (·.1)=false)(m:(x==("__debug__":Str))=false:=by decide):SE c k S (.Call (.Name x p) C [] pos) (Cm f t):=by
 intro A G g s B Z J V d Z' Q E P T e X;refine Aw e fun b W e=>?_;refine A8i ?_;refine Fi (Dp T.kind (by show G.scope.names.lookup x=_;rw[T.sc];exact R) (Lj (T.glob.symm▸T.top.top.g.keeps T.keep) z ?_)) m;refine Aim (o:=o) (fd:=fd) (Dr (by rw[Fb];exact l G) ?_);refine N pos A G g s B Z J V b.1 b.2 _ E P T W fun u s1z L vs K I F=>⟨⟨I.keep _ _ (I.top.k _ _ y),hd⟩,?_⟩;exact O S A G u s1z L b.2 J V b.1 vs d Z' Q E P I F e fun gb j q v i H h=>X gb j q v (K.trans i) H h
theorem Gz {x:Str}{p pos:Pos}{C:List Expr}{id:String}{t:LM}{f:List MV->Mu->Option (MV×Mu)}(N:SL c k S C t)(O:ON c k (fun vs=>call (.builtin id) vs) f)
  (R:S.names.lookup x=some .globalImplicit)(z:c.mg x=none)(Y:c.mb x=some (.builtin id))(l:∀G,(E7 C G).any (·.1)=false)(m:(x==("__debug__":Str))=false:=by decide):SE c k S (.Call (.Name x p) C [] pos) (Cm f t):=by
 intro A G g s B Z J V d Z' Q E P T e X;refine Aw e fun a W e=>?_;refine A8i ?_;refine Fi (Dp T.kind (by show G.scope.names.lookup x=_;rw[T.sc];exact R) (Hi (by rw[T.glob];exact T.top.top.g.keeps T.keep) z (by rw[T.blt];exact T.top.top.b.keeps T.keep) Y ?_)) m;refine Gv (by rw[Fb];exact l G) (Dr (by rw[Fb];exact l G) ?_);refine N pos A G g s B Z J V a.1 a.2 _ E P T W fun u s1z L vs K I F=>?_;exact O S A G u s1z L a.2 J V a.1 vs d Z' Q E P I F e fun gb j q v i H h=>X gb j q v (K.trans i) H h
theorem Lx {x:Str}{p pos:Pos}{C:List Expr}{id:String}{t:LM}{f:List MV->Mu->Option (MV×Mu)}(N:SL c k S C t)(O:ON c k (fun vs=>call (.type id) vs) f)
  (R:S.names.lookup x=some .globalImplicit)(z:c.mg x=none)(Y:c.mb x=some (.type id))(l:∀G,(E7 C G).any (·.1)=false)(m:(x==("__debug__":Str))=false:=by decide):SE c k S (.Call (.Name x p) C [] pos) (Cm f t):=by
 intro A G g s B Z J V d Z' Q E P T e X;refine Aw e fun a W e=>?_;refine A8i ?_;refine Fi (Dp T.kind (by show G.scope.names.lookup x=_;rw[T.sc];exact R) (Hi (by rw[T.glob];exact T.top.top.g.keeps T.keep) z (by rw[T.blt];exact T.top.top.b.keeps T.keep) Y ?_)) m;refine PySem.callWith_type (by rw[Fb];exact l G) (Dr (by rw[Fb];exact l G) ?_);refine N pos A G g s B Z J V a.1 a.2 _ E P T W fun u s1z L vs K I F=>?_;exact O S A G u s1z L a.2 J V a.1 vs d Z' Q E P I F e fun gb j q v i H h=>X gb j q v (K.trans i) H h
theorem A45 {x:Str}{p:Pos}{id:String}(R:S.names.lookup x=some .globalImplicit)(z:c.mg x=none)(Y:c.mb x=some (.type id))(m:(x==("__debug__":Str))=false:=by decide):SE c k S (.Name x p) (kE (.typ id)):=by
 intro A G g s B Z J V d Z' Q E P T e X;replace X:=X.cast e;exact Fi (Dp T.kind (by show G.scope.names.lookup x=_;rw[T.sc];exact R) (Hi (by rw[T.glob];exact T.top.top.g.keeps T.keep) z (by rw[T.blt];exact T.top.top.b.keeps T.keep) Y (X g s B _ (Ev.refl _ _ _) T (.p (.typ id))))) m
end
end
section
noncomputable abbrev Own:=List (Addr×Obj)
noncomputable def fo (own:Own):List (Addr×Hd):=own.map fun q=>(q.1,.obj q.2)
theorem Ahj (own:Own):(fo own).map (·.1)=own.map (·.1):=by unfold fo;rw[F6];rfl
noncomputable def U0 (o:Obj):Prop:=(∀v,o.data≠.cell v)/\∀vs,o≠Qb vs
section
variable {c:Cx}{k:Nat}{S:Sg}{env:Env}{g:Heap}{s:Ad}{B:List Addr}{Z:Mu}{fs:List (Addr×Hd)}{V:Sl}
theorem AOk.mono {A:Bs}{k:Nat}{fl fl':List (Addr×HK)}(x:AOk A k fl)(h:∀a∈fl,a∈fl'):AOk A k fl':=
 ⟨x.hh,x.depth,x.units,x.frames.elim fun o k=>⟨o,k.1,fun e p=>(k.2 e p).elim fun C k=>k.elim fun L k=>⟨C,L,k.1,h _ k.2⟩⟩,h _ x.sta⟩
theorem AOk.own {A:Bs}{own:Own}(x:AOk A k ((env.locals,HK.ns)::fs.map kd)):AOk A k ((env.locals,HK.ns)::(fo own++fs).map kd):=
 x.mono fun a h=>by
  rcases Av.mp h with rfl|h
  ·exact .head _
  ·refine .tail _ ?_;rw[F5];exact Kl _ h
theorem Awn {own:Own}{q:Addr×Hd}(h:q∈fo own):∃p∈own,q=(p.1,.obj p.2):=by
 unfold fo at h;obtain⟨p,I,rfl⟩:=Bj.mp h;exact⟨p,I,rfl⟩
theorem St.own_get {own:Own}(T:St c S env g s B Z (fo own++fs) V){q:Addr×Obj}(h:q∈own):s.heap.get? q.1=some q.2/\U0 q.2/\g.get? q.1=none:=by
 obtain⟨m,i⟩:=T.fst;have z:=i.1.fr (q.1,.obj q.2) (.tail _ (Gg _ (C6 (f:=fun q:Addr×Obj=>(q.1,Hd.obj q.2)) h)));exact⟨z.1.1,z.1.2,z.2.1⟩
theorem St.own_drop {own:Own}(T:St c S env g s B Z (fo own++fs) V):St c S env g s B Z fs V:=by
 obtain⟨m,z⟩:=T.fst;have F:=z.1;refine⟨T.kind,T.glob,T.blt,T.sc,⟨m,⟨F.keep,F.bare,F.len,F.mu,F.dead,F.nd,F.liv,fun q hq=>F.fr q ?_,?_,F.top,F.tab,F.tnd⟩,z.2⟩,T.loc,T.own,T.inj,T.cap,T.names,T.len,T.known⟩
 ·rcases Av.mp hq with rfl|hq
  ·exact .head _
  ·exact .tail _ (Kl _ hq)
 ·have:=F.fnd;exact this.sublist (by simp)
theorem St.own_step {own:Own}(T:St c S env g s B Z (fo own++fs) V){h':Heap}{tk:Nat}(hk:∀b o,b∉own.map (·.1)->s.heap.get? b=some o->h'.get? b=some o)(j:Own)(e:(j.map (·.1)).Sublist (own.map (·.1)))(y:∀q∈j,h'.get? q.1=some q.2/\U0 q.2):
  ∃g',Ev g s B g' {s with heap:=h',toks:=tk} B/\St c S env g' {s with heap:=h',toks:=tk} B Z (fo j++fs) V/\∀b o,s.heap.get? b=none->h'.get? b=some o->g'.get? b=some o:=by
 refine Aa fun P=>?_;obtain⟨m,W⟩:=T.fst;have F:=W.1;refine P ?_
 let g':=sub h' fun b=>(g.get? b).isSome||(s.heap.get? b).isNone
 have notown:∀b o,g.get? b=some o->b∉own.map (·.1):=fun b o e Y=>by
  obtain⟨q,hq,rfl⟩:=Bj.mp Y;rw[(T.own_get hq).2.2] at e;cases e
 have A:Up g g':=fun b o e=>by
  rw[Cw,if_pos (by simp[e])];exact hk _ _ (notown _ _ e) (F.keep _ _ e)
 have z:∀a o,g.get? a=none->s.heap.get? a=some o->g'.get? a=none:=fun a o U O=>by
  rw[Cw,if_neg (by simp[U,O])]
 have X:=F.fnd;rw[qk,F5,Ahj] at X;have N:FSt c g' {s with heap:=h',toks:=tk} B Z ((env.locals,.ns m)::(fo j++fs)):=by
  refine⟨fun b o e=>?_,F.bare,F.len,fun i o a H M=>?_,fun i a H M=>?_,F.nd,fun a M=>?_,fun q hq=>?_,?_,F.top.up A,fun q hq=>?_,F.tnd⟩
  ·rw[Cw] at e;split at e
   ·exact e
   ·exact A2 e
  ·obtain⟨U,O⟩:=F.mu i o a H M;obtain⟨x,R⟩:=O.live;refine⟨z a x U R,O.up A fun x e=>hk _ _ (fun Y=>?_) e⟩;obtain⟨q,hq,rfl⟩:=Bj.mp Y;exact(F.fr (q.1,.obj q.2) (.tail _ (Gg _ (C6 (f:=fun q:Addr×Obj=>(q.1,Hd.obj q.2)) hq)))).2.2 (Bo M)
  ·obtain⟨o,e⟩:=F.dead i a H M;exact⟨o,A _ _ e⟩
  ·obtain⟨o,e⟩:=F.liv a M;refine⟨o,hk _ _ (fun Y=>?_) e⟩;obtain⟨q,hq,rfl⟩:=Bj.mp Y;exact(F.fr (q.1,.obj q.2) (.tail _ (Gg _ (C6 (f:=fun q:Addr×Obj=>(q.1,Hd.obj q.2)) hq)))).2.2 M
  ·rcases Av.mp hq with rfl|hq
   ·obtain⟨U,O,C⟩:=F.fr _ (.head _);obtain⟨o,e⟩:=U.live;exact⟨U.at fun o e=>hk _ _ (fun Y=>((C4.mp X).1) (Gg _ Y)) e,z _ o O e,C⟩
   ·rcases B6.mp hq with hq|hq
    ·obtain⟨p,I,rfl⟩:=Awn hq;have Y:p.1∈own.map (·.1):=e.subset (C6 I);obtain⟨q,zz48⟩:=Bj.mp Y;have hq':=zz48.1;have K:=zz48.2;have w:=F.fr (q.1,.obj q.2) (.tail _ (Gg _ (C6 (f:=fun q:Addr×Obj=>(q.1,Hd.obj q.2)) hq')));have O:=w.2.1;have C:=w.2.2;rw[K] at O C;refine⟨y p I,?_,C⟩;exact z _ q.2 O (K▸w.1.1)
    ·obtain⟨U,O,C⟩:=F.fr q (.tail _ (Kl _ hq));obtain⟨o,e⟩:=U.live;refine⟨U.at fun o e=>hk _ _ (fun Y=>?_) e,z _ o O e,C⟩;exact(Hp.mp ((C4.mp X).2)).2.2 _ Y _ (C6 hq) rfl
  ·rw[qk,F5,Ahj];exact X.sublist ((e.append (G9 _)).cons₂ _)
  ·obtain⟨U,ps,L⟩:=F.tab q hq;refine⟨z _ _ U L.1,ps,hk _ _ (fun Y=>?_) L.1,L.2.up A⟩;obtain⟨p,I,K⟩:=Bj.mp Y;obtain⟨u,⟨_,l⟩,_⟩:=T.own_get I;rw[K,L.1] at u;exact l _ (Af u).symm
 refine⟨g',Ev.same A rfl,?_,fun b o U O=>?_⟩
 ·refine⟨T.kind,T.glob,T.blt,T.sc,⟨m,N,fun i x d U O=>(W.2 i x d U O).elim fun v k=>⟨v,k.1,k.2.up A (Bi _)⟩⟩,T.loc,fun i x h=>?_,T.inj,fun i x d U O=>?_,T.names,T.len,T.known⟩
  ·refine Aa fun zk18=>?_;obtain⟨U,a,D,t⟩:=T.own i x h;obtain⟨J,Q,E⟩:=t.2.2.1;refine zk18 ?_;refine⟨U,a,D,t.1,z _ J t.2.1 Q,⟨J,hk _ _ (fun Y=>?_) Q,E⟩,fun d hd=>(t.2.2.2 d hd).elim fun v k=>⟨v,k.1,k.2.up A (Bi _)⟩⟩;obtain⟨p,I,K⟩:=Bj.mp Y;obtain⟨u,⟨l,_⟩,_⟩:=T.own_get I;rw[K,Q] at u;exact l _ ((Af u)▸E)
  ·obtain⟨C,a,v,zz27⟩:=T.cap i x d U O;have G:=zz27.1;have n:=zz27.2.1;have r:=zz27.2.2;exact⟨C,a,v,G,n.keeps A,r.up A (Bi _)⟩
 ·rw[Cw,if_pos (by simp[U])];exact O
theorem St.own_stepE {own:Own}(T:St c S env g s B Z (fo own++fs) V){h':Heap}{tk:Nat}(hk:∀b o,b∉own.map (·.1)->s.heap.get? b=some o->h'.get? b=some o)(j:Own)(e:(j.map (·.1)).Sublist (own.map (·.1)))(y:∀q∈j,h'.get? q.1=some q.2/\U0 q.2){G:Prop}(k:∀N,Ev g s B N {s with heap:=h',toks:=tk} B->St c S env N {s with heap:=h',toks:=tk} B Z (fo j++fs) V->(∀b o,s.heap.get? b=none->h'.get? b=some o->N.get? b=some o)->G):G:=(St.own_step (own:=own) (h':=h') (tk:=tk) T hk j e y).elim fun N z=>k N z.1 z.2.1 z.2.2
theorem St.own_new (T:St c S env g s B Z fs V){h':Heap}{tk:Nat}(hk:Up s.heap h')(own:Own)(nd:(own.map (·.1)).Nodup)(hn:∀q∈own,s.heap.get? q.1=none)(ho:∀q∈own,h'.get? q.1=some q.2/\U0 q.2):
  ∃g',Ev g s B g' {s with heap:=h',toks:=tk} B/\St c S env g' {s with heap:=h',toks:=tk} B Z (fo own++fs) V:=by
 refine Aa fun zk20=>?_;obtain⟨m,zz23⟩:=T.fst;have F:=zz23.1;refine zk20 ?_
 let g':=sub h' fun b=>(g.get? b).isSome||((s.heap.get? b).isNone&& !(own.map (·.1)).contains b)
 have up:Up g g':=fun b o e=>by
  rw[Cw,if_pos (by simp[e])];exact hk _ _ (F.keep _ _ e)
 have hid:∀a o,g.get? a=none->s.heap.get? a=some o->g'.get? a=none:=fun a o h1 h2=>by
  rw[Cw,if_neg (by simp[h1,h2])]
 have old:∀{a:Addr} {o:Obj},s.heap.get? a=some o->a∉own.map (·.1):=fun h hb=>by
  obtain⟨q,hq,rfl⟩:=Bj.mp hb;rw[hn q hq] at h;cases h
 have F':FSt c g' {s with heap:=h',toks:=tk} B Z ((env.locals,.ns m)::(fo own++fs)):=by
  refine⟨fun b o e=>?_,F.bare,F.len,fun i o a hi ha=>?_,fun i a hi ha=>?_,F.nd,fun a ha=>?_,fun q hq=>?_,?_,F.top.up up,fun q hq=>?_,F.tnd⟩
  ·rw[Cw] at e;split at e
   ·exact e
   ·exact A2 e
  ·obtain⟨h1,h2⟩:=F.mu i o a hi ha;obtain⟨x,hx⟩:=h2.live;exact⟨hid a x h1 hx,h2.up up fun x e=>hk _ _ e⟩
  ·obtain⟨o,e⟩:=F.dead i a hi ha;exact⟨o,up _ _ e⟩
  ·obtain⟨o,e⟩:=F.liv a ha;exact⟨o,hk _ _ e⟩
  ·have oldq:∀q∈(env.locals,Hd.ns m)::fs,q.2.Ok h' q.1/\g'.get? q.1=none/\q.1∉B:=fun q hq=>by
    have zx19:=F.fr q hq;have h1:=zx19.1;obtain⟨o,e⟩:=h1.live;exact⟨h1.keeps hk,hid _ o zx19.2.1 e,zx19.2.2⟩
   rcases Av.mp hq with rfl|hq
   ·exact oldq _ (.head _)
   ·rcases B6.mp hq with hq|hq
    ·obtain⟨p,hp,rfl⟩:=Awn hq;refine⟨ho p hp,?_,fun hBz=>?_⟩
     ·show(sub h' _).get? p.1=_;have:g.get? p.1=none:=by
       cases e:g.get? p.1 with
       |none=>rfl
       |some o=>have:=F.keep _ _ e;rw[hn p hp] at this;cases this
      rw[Cw,if_neg];rw[this];simp only[Option.isSome_none,Bbh,A0,Fn,not_and,Bool.not_eq_false];intro _;exact Kj.mpr (C6 hp)
     ·obtain⟨o,e⟩:=F.liv _ hBz;rw[hn p hp] at e;cases e
    ·exact oldq q (.tail _ hq)
  ·have d:=F.fnd;rw[qk] at d |-
   rw[F5,Ahj];have live:∀q∈(env.locals,Hd.ns m)::fs,q.1∉own.map (·.1):=fun q hq=>by
    obtain⟨o,e⟩:=((F.fr q hq).1).live;exact old e
   rw[C4,B6];refine⟨fun h=>?_,Hp.mpr ⟨nd,(C4.mp d).2,fun a ha b hb q=>?_⟩⟩
   ·rcases h with h|h
    ·exact live _ (.head _) h
    ·exact(C4.mp d).1 h
   ·obtain⟨p,hp,rfl⟩:=Bj.mp hb;exact live p (.tail _ hp) (q▸ha)
  ·obtain⟨h1,ps,zz14⟩:=F.tab q hq;have h2:=zz14.1;have h3:=zz14.2;exact⟨hid _ _ h1 h2,ps,hk _ _ h2,h3.up up⟩
 refine⟨g',Ev.same up rfl,?_⟩;refine⟨T.kind,T.glob,T.blt,T.sc,⟨m,F',fun i x d h1 h2=>(zz23.2 i x d h1 h2).elim fun v k=>⟨v,k.1,k.2.up up (Bi _)⟩⟩,T.loc,fun i x h=>?_,T.inj,fun i x d h1 h2=>?_,T.names,T.len,T.known⟩
 ·refine Aa fun zk29=>?_;obtain⟨h1,a,ov,zz9⟩:=T.own i x h;obtain⟨oc,ec,dc⟩:=zz9.2.2.1;exact zk29 ⟨h1,a,ov,zz9.1,hid _ oc zz9.2.1 ec,⟨oc,hk _ _ ec,dc⟩,fun d hd=>(zz9.2.2.2 d hd).elim fun v k=>⟨v,k.1,k.2.up up (Bi _)⟩⟩
 ·obtain⟨h3,a,v,zz4⟩:=T.cap i x d h1 h2;have h4:=zz4.1;have h5:=zz4.2.1;have h6:=zz4.2.2;exact⟨h3,a,v,h4,h5.keeps up,h6.up up (Bi _)⟩
theorem St.own_newE (T:St c S env g s B Z fs V){h':Heap}{tk:Nat}(hk:Up s.heap h')(own:Own)(A:(own.map (·.1)).Nodup)(K:∀q∈own,s.heap.get? q.1=none)(y:∀q∈own,h'.get? q.1=some q.2/\U0 q.2){G:Prop}(k:∀N,Ev g s B N {s with heap:=h',toks:=tk} B->St c S env N {s with heap:=h',toks:=tk} B Z (fo own++fs) V->G):G:=(St.own_new (h':=h') (tk:=tk) T hk own A K y).elim fun N z=>k N z.1 z.2
noncomputable abbrev Nx:=Nat->Mu->Option (Option MV)
noncomputable abbrev ItR:=Nat->Heap->List Addr->Own->Prop
structure Agj (c:Cx)(target:Expr)(it:Ac)(nx:Nx)(R:ItR):Prop where
 mono:∀{i g B own g' B'},R i g B own->Up g g'->B<+:B'->R i g' B' own
 item:∀{A:Bs} {S:Sg} {env:Env} {g:Heap} {s:Ad} {B:List Addr} {Z:Mu} {fs:List (Addr×Hd)} {V:Sl} {own:Own} {i:Nat} {d:MV} {Q:Ac->Ad->Prop} {Q':Option Ac->Ad->Prop} {E:Ac->Ad->Prop},A.handled=none->
  St c S env g s B Z (fo own++fs) V->R i g B own->nx i Z=some (some d)->
  (∀g' s' own' v,Ev g s B g' s' B->St c S env g' s' B Z (fo own'++fs) V->R (i+1) g' B own'->VR g' B d v->Q v s')->
  (∀v s',A1 c.M A (Rz target it v) (fun _ s2z=>Q v s2z) E s'->Q' (some v) s')->A1 c.M A (Ata it) Q' E s
 done:∀{A:Bs} {S:Sg} {env:Env} {g:Heap} {s:Ad} {B:List Addr} {Z:Mu} {fs:List (Addr×Hd)} {V:Sl} {own:Own} {i:Nat} {Q:Option Ac->Ad->Prop} {E:Ac->Ad->Prop},A.handled=none->
  St c S env g s B Z (fo own++fs) V->R i g B own->nx i Z=some none->
  (∀g' s',Ev g s B g' s' B->St c S env g' s' B Z fs V->Q none s')->A1 c.M A (Ata it) Q E s
 self:∀{A:Bs} {S:Sg} {env:Env} {g:Heap} {s:Ad} {B:List Addr} {Z:Mu} {fs:List (Addr×Hd)} {V:Sl} {own:Own} {i:Nat} {Q:Ac->Ad->Prop} {E:Ac->Ad->Prop},
  St c S env g s B Z (fo own++fs) V->R i g B own->Q it s->A1 c.M A (Z8 it) Q E s
end
end
section
section
variable {c:Cx}{k:Nat}{S:Sg}{env:Env}{g:Heap}{s:Ad}{B:List Addr}{Z:Mu}{fs:List (Addr×Hd)}{V:Sl}
theorem Qh {o:Obj}{n:String}(h:o.cls=.type n)(vs:Array Ac)(d:o.data=.fields vs):U0 o:=
 ⟨fun v e=>by rw[d] at e;(first|cases e|exact absurd e (by simp)),fun ws e=>by subst e;cases h⟩
theorem A30 {o:Obj}{n:String}(h:o.cls=.type n){vs:Array Ac}{k:Nat}(d:o.data=.seq vs k):U0 o:=
 ⟨fun v e=>by rw[d] at e;(first|cases e|exact absurd e (by simp)),fun ws e=>by subst e;cases h⟩
theorem Xa {prog:Ia}{w:F7}{A:Bs}{E:Ac->Ad->Prop}{target:Expr}{I:Addr}{v:Ac}{j:Unit->Ad->Prop}{s':Ad}{o:Obj}{n:String}{vs:Array Ac}(y:s'.heap.get? I=some o)(L:o.cls=.type n)(hd:o.data=.fields vs)
  (K:["enumerate","zip","dict_itemiterator","dict_reverseitemiterator","odict_iterator","itertools.zip_longest","itertools.pairwise"].contains n=false)(h:j () s'):
  A1 (model prog w) A (Rz target (.ref I) v) j E s':=by
 cases target<;>first
  |exact Al h
  |(cases v<;>first
    |exact Al h
    |(refine Ag (Xz y ?_)
      rw[L,hd];simp only[K,Wb];exact Al h))
noncomputable def isT:MV->Bool
 | .p (.tuple _)=>true
 | .tup _=>true
 |_=>false
set_option tactic.hygienic true in
theorem St.seq (T:St c S env g s B Z fs V){x:MV}{v:Ac}(r:VR g B x v){l:List MV}(e:Kp Z x=some l):∃a vs,v=.ref a/\VRs g B l vs/\(isT x=true->s.heap.IsTuple a vs.toArray)/\(isT x=false->s.heap.IsList a vs.toArray):=by
 unfold Kp at e;split at e
 ·refine Aa fun C=>?_;cases e;refine exe2 r.pl fun _ _ f=>?_;obtain⟨rfl,t,r⟩:=f;exact C ⟨_,_,rfl,r.vrs,fun _=>Hu T.keep.s t,fun h=>by cases h⟩
 ·refine Aa fun X=>?_;cases e;refine exe2 r.inv fun _ _ F=>?_;obtain⟨rfl,t,r⟩:=F;exact X ⟨_,_,rfl,r,fun _=>Hu T.keep.s t,fun h=>by cases h⟩
 ·rename_i U O;refine E4 e fun q W e=>?_;subst e;refine exe2 (T.lst r W) fun a vs H=>?_;obtain⟨rfl,t,Y⟩:=H;refine exi2 _ _ ⟨rfl,Y.vrs,fun h=>?_,fun _=>t⟩;unfold isT at h;split at h
  ·exact absurd rfl (U _)
  ·exact absurd rfl (O _)
  ·cases h
noncomputable def Akf (d:MV):Nx:=fun i Z=>(Kp Z d).map fun l=>l[i]?
noncomputable def Bch (I:Addr)(d:MV):ItR:=fun i g B own=>∃a o,own=[(I,o)]∧o.cls=.type (if isT d=true then "tuple_iterator" else "list_iterator")∧o.data=.fields #[.ref a,.int i 0]∧VR g B d (.ref a)
theorem Av3 {target:Expr}(I:Addr)(d:MV):Agj c target (.ref I) (Akf d) (Bch I d) where
 mono:=fun⟨a,o,U,O,C,j⟩ u p=>exi2 a o ⟨U,O,C,j.up u p⟩
 item:=fun{A S G g s B Z J V own i x Q Q' E} P T r e X hgo=>by
  refine Aa fun y=>?_;refine exe2 r fun a o zw16=>?_;obtain⟨rfl,U,O,C⟩:=zw16;refine E4 e fun l W D=>?_;obtain⟨a',vs,ea,L,z,N⟩:=T.seq C W;cases ea;obtain⟨v,F,rv⟩:=L.get D;refine y ?_;have hv':vs.toArray[i]?=some v:=by simpa using F
  cases hd:isT d with
  |true=>
   rw[hd,if_pos rfl] at U;refine wpAny_pyNext_tuple_item (s:=s) ⟨o,((T.own_get (Cd _)).1),U,O⟩ (z hd) hv' fun h' hit' M=>?_;obtain⟨w,K,c',d'⟩:=id hit';refine T.own_stepE (tk:=s.toks) (fun b o Y e=>M.extBut b o (by simpa using Y) e) [(I,w)] (G9 _) (fun q hq=>by rw[A6.mp hq];exact⟨K,Qh c' _ d'⟩) fun h f t _=>?_;exact hgo _ _ (Xa K c' d' (by decide) (X h _ [(I,w)] v f t ⟨a,w,rfl,by rw[hd];exact c',d',C.up f.up f.pre⟩ (rv.up f.up f.pre)))
  |false=>
   rw[hd,if_neg (by simp)] at U;refine wpAny_pyNext_list_item (s:=s) ⟨o,((T.own_get (Cd _)).1),U,O⟩ (N hd) hv' fun h' hit' M=>?_;obtain⟨w,K,c',d'⟩:=id hit';refine T.own_stepE (tk:=s.toks) (fun b o Y e=>M.extBut b o (by simpa using Y) e) [(I,w)] (G9 _) (fun q hq=>by rw[A6.mp hq];exact⟨K,Qh c' _ d'⟩) fun h f t _=>?_;exact hgo _ _ (Xa K c' d' (by decide) (X h _ [(I,w)] v f t ⟨a,w,rfl,by rw[hd];exact c',d',C.up f.up f.pre⟩ (rv.up f.up f.pre)))
 done:=fun{A S G g s B Z J V own i Q E} P T r e X=>by
  refine Aa fun k=>?_;refine exe2 r fun a o zw35=>?_;obtain⟨rfl,U,O,C⟩:=zw35;refine E4 e fun l W D=>?_;obtain⟨a',vs,ea,L,z,N⟩:=T.seq C W;cases ea;refine k ?_;have hv':vs.toArray[i]?=none:=by
   have e2':=Ep.mp D;rw[Ed,Ep,L.length];exact e2'
  have H:∀h',Mq I s.heap h'->Q none {s with heap:=h'}:=fun h' R=>by
   refine Aa fun m=>?_;refine T.own_stepE (tk:=s.toks) (fun b o Y e=>R b o (by simpa using Y) e) [] (Os _) (fun q hq=>by cases hq) fun h f t _=>?_;exact m (X h _ f t)
  cases hd:isT d with
  |true=>
   rw[hd,if_pos rfl] at U;exact wpAny_pyNext_tuple_end P (s:=s) ⟨o,((T.own_get (Cd _)).1),U,O⟩ (z hd) hv' fun h' R=>H h' R
  |false=>
   rw[hd,if_neg (by simp)] at U;exact wpAny_pyNext_list_end P (s:=s) ⟨o,((T.own_get (Cd _)).1),U,O⟩ (N hd) hv' fun h' R=>H h' R
 self:=fun{A S G g s B Z J V own i Q E} T r X=>by
  refine Aa fun n=>?_;obtain⟨a,o,rfl,U,O,C⟩:=r;refine n ?_;cases hd:isT d with
  |true=>rw[hd,if_pos rfl] at U;exact wpAny_pyIter_tupleiter (s:=s) ⟨o,((T.own_get (Cd _)).1),U,O⟩ X
  |false=>rw[hd,if_neg (by simp)] at U;exact wpAny_pyIter_listiter (s:=s) ⟨o,((T.own_get (Cd _)).1),U,O⟩ X
noncomputable abbrev IM:=Sl->Mu->Option (Nx×Nat×Mu)
noncomputable def SI (c:Cx)(k:Nat)(S:Sg)(target y:Expr)(f:IM):Prop:=
 ∀(A:Bs)(G:Env)(g:Heap)(s:Ad)(B:List Addr)(Z:Mu)(J:List (Addr×Hd))(V:Sl)(nx:Nx)(n:Nat)(Z':Mu)(Q E:Ac->Ad->Prop),
  AOk A k ((G.locals,HK.ns)::J.map kd)->St c S G g s B Z J V->f V Z=some (nx,n,Z')->
  (∀N s' I q own R,Ev g s B N s' I->St c S G N s' I Z' (fo own++J) V->Agj c target q nx R->R 0 N I own->Q q s')->A1 c.M A (eval y G) (fun v s1z=>A1 c.M A (Z8 v) Q E s1z) E s
theorem St.iter_one (T:St c S env g s B Z fs V)(o:Obj)(y:U0 o)(O:o.isFreed=false)(tk:Nat):∃N,Ev g s B N {s with heap:=s.heap.push o,toks:=tk} B/\St c S env N {s with heap:=s.heap.push o,toks:=tk} B Z (fo [(s.heap.objs.size,o)]++fs) V:=
 T.own_new (fun b o e=>E6 _ _ b o e) [(s.heap.objs.size,o)] (by simp) (fun q hq=>by rw[A6.mp hq];exact Ge) (fun q hq=>by rw[A6.mp hq];exact⟨Cy _ O,y⟩)
theorem St.iter_oneE (T:St c S env g s B Z fs V)(o:Obj)(y:U0 o)(O:o.isFreed=false)(tk:Nat){G:Prop}(k:∀N,Ev g s B N {s with heap:=s.heap.push o,toks:=tk} B->St c S env N {s with heap:=s.heap.push o,toks:=tk} B Z (fo [(s.heap.objs.size,o)]++fs) V->G):G:=(St.iter_one T o y O tk).elim fun N z=>k N z.1 z.2
noncomputable def Z3 (a:EM):IM:=fun V Z=>(a V Z).bind fun x=>(Kp x.2 x.1).map fun l=>(Akf x.1,l.length,x.2)
theorem Aa0 {target e:Expr}{a:EM}(M:SE c k S e a):SI c k S target e (Z3 a):=by
 intro A G g s B Z J V nx n Z' Q E P T e X;refine Aa fun j=>?_;refine Aw e fun z W e=>?_;refine E4 e fun l D e=>?_;cases e;refine j ?_;refine M A G g s B Z J V z.1 z.2 _ E P T W fun u s1z L v K I F=>?_;refine exe2 (I.seq F D) fun a' vs b=>?_;obtain⟨rfl,i,d,N⟩:=b;cases hd:isT z.1 with
 |true=>
  refine Bbu (d hd) ?_;refine I.iter_oneE {cls:=.type "tuple_iterator",data:=.fields #[.ref a',.int 0 0]} (Qh rfl _ rfl) rfl s1z.toks fun gb f H=>?_
  exact X gb _ L _ _ _ (K.trans f) H (Av3 s1z.heap.objs.size z.1) ⟨a',_,rfl,by rw[hd];rfl,rfl,F.up f.up f.pre⟩
 |false=>
  refine wpAny_pyIter_list (N hd) ?_;refine I.iter_oneE {cls:=.type "list_iterator",data:=.fields #[.ref a',.int 0 0]} (Qh rfl _ rfl) rfl s1z.toks fun gb f H=>?_
  exact X gb _ L _ _ _ (K.trans f) H (Av3 s1z.heap.objs.size z.1) ⟨a',_,rfl,by rw[hd];rfl,rfl,F.up f.up f.pre⟩
end
end
section
section
variable {c:Cx}{k:Nat}{S:Sg}{env:Env}{g:Heap}{s:Ad}{B:List Addr}{Z:Mu}{fs:List (Addr×Hd)}{V:Sl}
noncomputable def Nf (a:Int)(n:Nat):Nx:=fun i _=>some (if i<n then some (.p (.int (a+i))) else none)
noncomputable def Ro (a:Int)(n i:Nat):Obj:={cls:=.type "range_iterator",dict:=none,data:=.fields #[Hb (a+i),Hb ((n:Int)-i),Hb 1],slots:= #[]}
theorem Av2 {target:Expr}(I:Addr)(a:Int)(n:Nat):Agj c target (.ref I) (Nf a n) (fun i _ _ own=>i<=n/\own=[(I,Ro a n i)]) where
 mono:=fun x _ _=>x
 item:=fun{A S G g s B Z J V own i x Q j E} P T r e X d=>by
  refine Aa fun C=>?_;obtain⟨H,rfl⟩:=r;have e:=Af e;have M:=(Am e).1;replace e:=(Am e).2;cases e;refine C ?_;refine wpAny_pyNext_range_item (s:=s) (x:=a+i) (left:=(n:Int)-i) (step:=1) ((T.own_get (Cd _)).1) (by omega) fun h' h l=>?_;have p:h'.get? I=some (Ro a n (i+1)):=by
   have W:a+(i:Int)+1=a+((i+1:Nat):Int):=(Oc (S6 _ _ _) rfl);have D:(n:Int)-i-1=(n:Int)-((i+1:Nat):Int):=by lia
   rw[W,D] at h;exact h
  refine T.own_stepE (tk:=s.toks+1) (fun b o Y e=>l.extBut b o (by simpa using Y) e) [(I,Ro a n (i+1))] (G9 _) (fun q hq=>by rw[A6.mp hq];exact⟨p,Qh rfl _ rfl⟩) fun N f t _=>?_;exact d _ _ (Xa p rfl rfl (by decide) (X N _ _ _ f t ⟨by assumption,rfl⟩ (.p (.int _ _))))
 done:=fun{A S G g s B Z J V own i Q E} P T r e X=>by
  obtain⟨H,rfl⟩:=r;have e:=Af e;split at e
  ·exact nomatch e
  ·refine wpAny_pyNext_range_end P (s:=s) (x:=a+i) (left:=(n:Int)-i) (step:=1) ((T.own_get (Cd _)).1) (by omega) fun h' R=>?_;refine T.own_stepE (tk:=s.toks) (fun b o Y e=>R b o (by simpa using Y) e) [] (Os _) (fun q hq=>by cases hq) fun N f t _=>?_;exact(X N _ f t)
 self:=fun{A S G g s B Z J V own i Q E} T r X=>by
  refine Aa fun w=>?_;obtain⟨H,rfl⟩:=r;refine w ?_;exact wpAny_pyIter_rangeiter (s:=s) (x:=a+i) (left:=(n:Int)-i) (step:=1) (T.own_get (Cd _)).1 X
noncomputable def OI (c:Cx)(target:Expr)(t:List Ac->Sem Ac)(f:List MV->Mu->Option (Nx×Nat)):Prop:=
 ∀(A:Bs)(S:Sg)(G:Env)(g:Heap)(s:Ad)(B:List Addr)(Z:Mu)(J:List (Addr×Hd))(V:Sl)(xs:List MV)(vs:List Ac)(nx:Nx)(n:Nat)(Q E:Ac->Ad->Prop),
  A.handled=none->St c S G g s B Z J V->VRs g B xs vs->f xs Z=some (nx,n)->
  (∀N s' q own R,Ev g s B N s' B->St c S G N s' B Z (fo own++J) V->Agj c target q nx R->R 0 N B own->Q q s')->A1 c.M A (t vs) (fun v s1z=>A1 c.M A (Z8 v) Q E s1z) E s
noncomputable def Np (t:LM)(f:List MV->Mu->Option (Nx×Nat)):IM:=fun V Z=>(t V Z).bind fun x=>(f x.1 x.2).map fun r=>(r.1,r.2,x.2)
theorem Ox {target:Expr}{x:Str}{p pos:Pos}{C:List Expr}{id:String}{t:LM}{f:List MV->Mu->Option (Nx×Nat)}(N:SL c k S C t)(O:OI c target (fun vs=>call (.type id) vs) f)
  (u:S.names.lookup x=some .globalImplicit)(z:c.mg x=none)(Y:c.mb x=some (.type id))(l:∀G,(E7 C G).any (·.1)=false)(m:(x==("__debug__":Str))=false:=by decide):SI c k S target (.Call (.Name x p) C [] pos) (Np t f):=by
 intro A G g s B Z J V nx n Z' Q E P T e X;refine Aa fun b=>?_;refine Aw e fun y W e=>?_;refine E4 e fun a D e=>?_;cases e;refine b ?_;refine A8i ?_;refine Fi (Dp T.kind (by show G.scope.names.lookup x=_;rw[T.sc];exact u) (Hi (by rw[T.glob];exact T.top.top.g.keeps T.keep) z (by rw[T.blt];exact T.top.top.b.keeps T.keep) Y ?_)) m;refine PySem.callWith_type (by rw[Fb];exact l G) (Dr (by rw[Fb];exact l G) ?_);refine N pos A G g s B Z J V y.1 y.2 _ E P T W fun U s1z L vs K I F=>?_;exact O A S G U s1z L y.2 J V y.1 vs _ _ Q E P.hh I F D fun gb j q own R i H h r=>X gb j L q own R (K.trans i) H h r
noncomputable abbrev Ark (a:Int):Prop:= -(2^62)<=a/\a<2^62
noncomputable def Q2 (xs:List MV)(_:Mu):Option (Nx×Nat):=match xs with
 |[x]=>x.i?.bind fun b=>if Ark b then some (Nf 0 b.toNat,b.toNat) else none
 |[x,y]=>x.i?.bind fun a=>y.i?.bind fun b=>if Ark a/\Ark b then some (Nf a (b-a).toNat,(b-a).toNat) else none
 |_=>none
theorem Acs (T:St c S env g s B Z fs V){target:Expr}{a b:Int}{A:Bs}{Q E:Ac->Ad->Prop}(M:Ark a)(Y:Ark b){I:Addr}{t u v:Tok}(j:IsRange s.heap I a b 1 t u v)
  (X:∀N s' q own R,Ev g s B N s' B->St c S env N s' B Z (fo own++fs) V->Agj c target q (Nf a (b-a).toNat) R->R 0 N B own->Q q s'):A1 c.M A (Z8 (.ref I)) Q E s:=by
 refine wpAny_pyIter_range j (small_one M.1 M.2 Y.1 Y.2) ?_;have K:Builtin.Range.rangeSize a b 1=((b-a).toNat:Int):=rangeSize_nat a b;rw[K];refine Aa fun z=>?_;refine T.iter_oneE (Ro a (b-a).toNat 0) (Qh rfl _ rfl) rfl s.toks fun gb f H=>?_;refine z ?_;have p:Ro a (b-a).toNat 0={cls:=.type "range_iterator",data:=.fields #[Hb a,Hb ((b-a).toNat:Int),Hb 1]}:=by
  unfold Ro;simp
 rw[p] at f H;exact X gb _ _ _ _ f H (Av2 s.heap.objs.size a _) ⟨Cb _,by rw[p]⟩
theorem Pc {target:Expr}:OI c target (fun vs=>call (.type "range") vs) Q2:=fun A S G g s B Z J V xs vs nx n Q E C T i e X=>by
 cases xs with
 |nil=>exact A2 e
 |cons x l=>cases l with
  |nil=>
   obtain⟨v,rfl,r⟩:=i.i1;refine Aw e fun b W e=>?_;rw[MV.i_i W] at r;obtain⟨t,rfl⟩:=r.pl;refine call_range_1 ?_;have d:=T.ev (h':=s.heap.push {cls:=.type "range",data:=.fields #[.int 0 s.toks,.int b t,.int 1 (s.toks+1)]}) (fun _ _ e=>E6 _ _ _ _ e) (s.toks+1+1)
   refine Acs d.1 (target:=target) (a:=0) (b:=b) (by unfold Ark;decide) (Am e).1 (A9b s.heap 0 b 1 _ _ _) fun N s' q own R m H k r=>?_;rw[Int.sub_zero] at k;cases (Am e).2;exact X N s' q own R (d.2.trans m) H k r
  |cons y l=>cases l with
   |nil=>
    refine exe2 i.i2 fun v w o=>?_;obtain⟨rfl,r,Y⟩:=o;refine Aw e fun a W e=>Aw e fun b D e=>?_;rw[MV.i_i W] at r;rw[MV.i_i D] at Y;obtain⟨t,rfl⟩:=r.pl;obtain⟨u,rfl⟩:=Y.pl;refine call_range_2 ?_;have d:=T.ev (h':=s.heap.push {cls:=.type "range",data:=.fields #[.int a t,.int b u,.int 1 s.toks]}) (fun _ _ e=>E6 _ _ _ _ e) (s.toks+1)
    cases (Am e).2;exact Acs d.1 (target:=target) ((Am e).1).1 ((Am e).1).2 (A9b s.heap a b 1 _ _ _) fun N s' q own R m H k r=>X N s' q own R (d.2.trans m) H k r
   |cons z l=>exact A2 e
noncomputable def Akq (l:List PV):Nx:=fun i Z=>some (if i<l.length then(l[l.length-1-i]?).map .p else none)
noncomputable def A7b:List MV->Mu->Option (Nx×Nat):=fun xs _=>(Ahu xs).bind fun x=>x.l?.map fun l=>(Akq l,l.length)
theorem Aqa {g:Heap}{l:List PV}{a:Addr}(h:PR g (.list l) (.ref a)):∃vs n,IsL g a vs.toArray n/\PRs g l vs:=
 h.inv.elim fun _ k=>k.elim fun vs k=>k.elim fun n k=>exi2 vs n ⟨Aeh k.1▸k.2.1,k.2.2⟩
theorem Aw9 {h:Heap}{a I:Addr}{o:Obj}{i:Array Ac}(t:h.IsList a i)(y:h.get? I=some o)(L:o.cls=.type "list_reverseiterator"):a≠I:=fun q=>t.elim fun l k=>by
 rw[q] at k;exact nomatch (k.2.1.symm.trans (congrArg Obj.cls (Af (k.1.symm.trans y)))).trans L
theorem A6d {target:Expr}(I a:Addr)(l:List PV):Agj c target (.ref I) (Akq l) (fun i g B own=>i≤l.length∧∃o,own=[(I,o)]∧o.cls=.type "list_reverseiterator"∧o.data=.fields #[.ref a,Hb ((l.length:Int)-1-i)]∧PR g (.list l) (.ref a)) where
 mono:=fun⟨H,o,U,O,C,j⟩ u p=>⟨H,o,U,O,C,j.up u⟩
 item:=fun{A S G g s B Z J V own i x Q Q' E} n T r e X hgo=>by
  refine Aa fun zk12=>?_;obtain⟨H,o,rfl,U,O,C⟩:=r;have m:=(T.own_get (Cd _)).1;have e:=Af e;have M:=(Am e).1;replace e:=(Am e).2;refine E4 e fun y W D=>?_;subst D;refine exe2 (Aqa C) fun vs nn zw16=>?_;obtain⟨t,L⟩:=zw16;refine zk12 ?_;have P:s.heap.IsList a vs.toArray:=Ux (T.keep _ _ t);have h:vs.toArray.size=l.length:=L.length;refine(Walks.listRev (prog:=c.prog) (w:=c.w) n I a (Aw9 P m U) vs.toArray).item i s _ _ (h▸M) ⟨Ba (h▸M),⟨o,m,U,by rw[O,h]⟩,P⟩ fun v h' tk F st' hk=>?_;refine Aa fun zk14=>?_;obtain⟨R,K,c',d'⟩:=st'.2.1;refine T.own_stepE (tk:=tk) (fun b o Y e=>hk b o (Y) e) [(I,R)] (G9 _) (fun q hq=>by rw[A6.mp hq];exact⟨K,Qh c' _ d'⟩) fun N f z _=>?_;refine zk14 ?_;refine hgo _ _ (Xa K c' d' (by decide) (X N _ [(I,R)] v f z ⟨M,R,rfl,c',by rw[d',h],C.up f.up⟩ ?_));obtain⟨v',hv',d⟩:=L.get W;have:v=v':=by
   rw[h,Ed] at F;exact Af (F.symm.trans hv')
  rw[this];exact .p (d.up f.up)
 done:=fun{A S G g s B Z J V own i Q E} n T r e X=>by
  refine Aa fun zk16=>?_;obtain⟨H,o,rfl,U,O,C⟩:=r;have m:=(T.own_get (Cd _)).1;have e:=Af e;have M:¬i<l.length:=fun M=>by
   rw[if_pos M] at e;have:=Alx.mp e;rw[Ep] at this;omega
  refine exe2 (Aqa C) fun vs nn zw27=>?_;obtain⟨t,L⟩:=zw27;refine zk16 ?_;have P:s.heap.IsList a vs.toArray:=Ux (T.keep _ _ t);have h:vs.toArray.size=l.length:=L.length;have k:i=vs.toArray.size:=h.symm▸Eh H (Als.mp M);refine(Walks.listRev (prog:=c.prog) (w:=c.w) n I a (Aw9 P m U) vs.toArray).done s _ _ ⟨At _,⟨o,m,U,by rw[O,<-k];rw[k,h]⟩,P⟩ fun h' tk hk=>?_;refine T.own_stepE (tk:=tk) (fun b o Y e=>hk b o (Y) e) [] (Os _) (fun q hq=>nomatch hq) fun N f z _=>?_;exact X N _ f z
 self:=fun{A S G g s B Z J V own i Q E} T r X=>by
  refine Aa fun zk19=>?_;obtain⟨H,o,rfl,U,O,C⟩:=r;refine zk19 ?_;exact A8q (s:=s) ⟨o,(T.own_get (Cd _)).1,U,O⟩ X
theorem A4y {target:Expr}:OI c target (fun vs=>call (.type "reversed") vs) A7b:=by
 intro A S G g s B Z J V xs vs nx n Q E C T i e X;refine Aw e fun x W e=>E4 e fun l D e=>?_;rw[Zo W,MV.l_i D] at i
 ·cases e;obtain⟨_,rfl,r⟩:=i.i1;replace r:=r.inv;have d:=r;cases r with
  | @list a ws _ _ t q=>
   have h:ws.toArray.size=l.length:=by rw[D4,q.length]
   refine call_reversed_list (Ux (T.keep _ _ t)) ?_;rw[h];refine T.iter_oneE (revObj a ((l.length:Int)-1)) (Qh rfl _ rfl) rfl s.toks fun gb f H=>?_;refine A8q ⟨_,Cy _ rfl,rfl,rfl⟩ ?_;exact X gb _ _ _ _ f H (A6d s.heap.objs.size a l) ⟨Cb _,_,rfl,rfl,by unfold revObj;simp,d.up f.up⟩
end
end
section
section
variable {c:Cx}{k:Nat}{S:Sg}{env:Env}{g:Heap}{s:Ad}{B:List Addr}{Z:Mu}{fs:List (Addr×Hd)}{V:Sl}
noncomputable def Ahf (d:MV):Nx:=fun i Z=>(E0 Z d).map fun l=>(l[i]?).map fun x=>.p (.tuple [.int i,x])
noncomputable def Oz (f:Ac)(q:Addr)(i:Nat)(o:Ac):Obj:={cls:=.type "enumerate",dict:=none,data:=.fields #[f,.bool false,.ref q,Hb i,.none,o],slots:= #[]}
inductive A3f (e:Addr)(d:MV)(i:Nat)(g:Heap)(B:List Addr)(own:Own):Prop
 |mk (it:Addr)(o:Obj)(a:Addr)(old:Ac)(h1:own=[(e,Oz .none it i old),(it,o)])(h2:o.cls=.type "list_iterator")(h3:o.data=.fields #[.ref a,.int i 0])(h4:VR g B d (.ref a)):A3f e d i g B own
noncomputable def Bag (e:Addr)(d:MV):ItR:=A3f e d
theorem A08 {elts:List Expr}{kk:Nat}{pos:Pos}(e:Addr)(d:MV):Agj c (.Tuple elts kk pos) (.ref e) (Ahf d) (Bag e d) where
 mono:=fun⟨it,o,a,old,U,O,C,j⟩ u p=>⟨it,o,a,old,U,O,C,j.up u p⟩
 item:=fun{A S G g s B Z J V own i x Q Q' E} hh T r eq X hgo=>by
  refine Aa fun k=>?_;obtain⟨it,o,a,old,rfl,U,O,C⟩:=r;refine E4 eq fun l W D=>?_;refine E4 D fun y n e4=>?_;subst e4;refine exe2 (T.lst C W) fun a' vs zw9=>?_;obtain⟨ea,t,L⟩:=zw9;cases ea;have he:=(T.own_get (q:=(e,Oz .none it i old)) (.head _)).1;have m:=(T.own_get (q:=(it,o)) (.tail _ (.head _))).1;have hei:e≠it:=fun q=>by rw[q,m] at he;have:=Af he;dsimp only at this;rw[this] at U;simp[Oz] at U
  have hle:a≠e:=fun q=>by obtain⟨o',K,c',_⟩:=t;rw[q,he] at K;cases K;simp[Oz] at c'
  have hli:a≠it:=fun q=>by obtain⟨o',K,c',_⟩:=t;rw[q,m] at K;cases K;rw[U] at c';simp at c'
  obtain⟨v,F,rv⟩:=L.get n;refine k ?_;have M:i<vs.toArray.size:=by have:=(Aq.mp F).1;exact this
  refine(Azc (prog:=c.prog) (w:=c.w) hh e it a hei hle hli vs.toArray).item i s _ _ M ⟨⟨old,he⟩,⟨o,m,U,O⟩,t⟩ fun T0 vals h' tk hP hsz hT hM hk=>?_;obtain⟨x',hx'⟩:=(id hM).1;obtain⟨o',eo,co,do'⟩:=(id hM).2.1;refine T.own_stepE (tk:=tk) (fun b o Y e=>hk b o (Y) e) [(e,Oz (Hb T0) it (i+1) x'),(it,o')] (G9 _) (fun q hq=>by
   rcases Av.mp hq with rfl|hq
   ·exact⟨hx',Qh rfl _ rfl⟩
   ·rw[A6.mp hq];exact⟨eo,Qh co _ do'⟩) fun h ev1 I na=>?_
  have hTn:s.heap.get? T0=none:=by
   cases q:s.heap.get? T0 with
   |none=>rfl
   |some z=>exact absurd (D5 q) (Als.mpr hsz)
  have hTg:h.IsTuple T0 vals:=by obtain⟨z,ez,q⟩:=hT;exact⟨z,na _ _ hTn ez,q⟩
  refine hgo _ _ ((Azc (prog:=c.prog) (w:=c.w) hh e it a hei hle hli vs.toArray).go elts kk pos i T0 _ _ _ hM fun h'' st hk'=>?_);obtain⟨old2,he2⟩:=st.1;obtain⟨o2,eo2,co2,do2⟩:=st.2.1;refine I.own_stepE (tk:=tk) (fun b o Y e=>hk' b o (Y) e) [(e,Oz .none it (i+1) old2),(it,o2)] (G9 _) (fun q hq=>by
   rcases Av.mp hq with rfl|hq
   ·exact⟨he2,Qh rfl _ rfl⟩
   ·rw[A6.mp hq];exact⟨eo2,Qh co2 _ do2⟩) fun gb ev2 H _=>?_
  refine X gb _ _ _ (ev1.trans ev2) H ⟨it,o2,a,old2,rfl,co2,do2,C.up (ev1.trans ev2).up (ev1.trans ev2).pre⟩ ?_;refine Aa fun P=>?_;obtain⟨tt,xx,hxx,rfl⟩:=hP;have:xx=v:=by
   have hv2:vs[i]?=some xx:=by simpa using hxx
   rw[F] at hv2;exact(Af hv2).symm
  subst this;refine P ?_;refine .p (.tuple (vs:=[.int i tt,xx]) (Hu ev2.up.s hTg) (.cons (.int _ _) (.cons (rv.up (ev1.trans ev2).up) .nil)))
 done:=fun{A S G g s B Z J V own i Q E} hh T r eq X=>by
  refine Aa fun zk6=>?_;obtain⟨it,o,a,old,rfl,U,O,C⟩:=r;refine E4 eq fun l W D=>?_;refine exe2 (T.lst C W) fun a' vs zw26=>?_;obtain⟨ea,t,L⟩:=zw26;cases ea;refine zk6 ?_;have hv':vs.toArray[i]?=none:=by
   have e2':=Ep.mp (Alx.mp D);rw[Ed,Ep,L.length];exact e2'
  refine wpAny_pyNext_enum_end (s:=s) hh ((T.own_get (q:=(e,Oz .none it i old)) (.head _)).1) ⟨o,((T.own_get (q:=(it,o)) (.tail _ (.head _))).1),U,O⟩ t hv' fun h' R=>?_;refine T.own_stepE (tk:=s.toks) (fun b o Y e=>R b o (fun q=>Y (q▸.tail _ (.head _))) e) [] (Os _) (fun q hq=>nomatch hq) fun N f T' _=>?_;exact(X N _ f T')
 self:=fun{A S G g s B Z J V own i Q E} T r X=>by
  obtain⟨it,o,a,old,rfl,U,O,C⟩:=r;exact wpAny_pyIter_enum (s:=s) (T.own_get (q:=(e,Oz .none it i old)) (.head _)).1 X
noncomputable def Ajs:List MV->Mu->Option (Nx×Nat):=fun xs Z=>(Ahu xs).bind fun d=>(E0 Z d).map fun l=>(Ahf d,l.length)
theorem Azm {elts:List Expr}{kk:Nat}{pos:Pos}:OI c (.Tuple elts kk pos) (fun vs=>call (.type "enumerate") vs) Ajs:=by
 intro A S G g s B Z J V xs vs nx n Q E P T i e X;refine Aw e fun d e0 e=>?_;rw[Zo e0] at i
 ·refine Aa fun t=>?_;refine E4 e fun l W e=>?_;cases e;obtain⟨_,rfl,r⟩:=i.i1;refine exe2 (T.lst r W) fun a ws m=>?_;obtain⟨rfl,b⟩:=m;refine t ?_;refine call_enumerate_list b.1 fun h' U O C hk=>?_;obtain⟨o,z⟩:=id O;refine wpAny_pyIter_enum U ?_;refine T.own_newE (tk:=s.toks) (h':=h') hk [(s.heap.objs.size+1,Oz .none s.heap.objs.size 0 .none),(s.heap.objs.size,o)] (by simp) (fun q hq=>by
   rcases Av.mp hq with rfl|hq
   ·exact Hl (h:=s.heap) Up.rfl (by simp)
   ·rw[A6.mp hq];exact Ge) (fun q hq=>by
   rcases Av.mp hq with rfl|hq
   ·exact⟨U,Qh rfl _ rfl⟩
   ·rw[A6.mp hq];exact⟨z.1,Qh z.2.1 _ z.2.2⟩) fun gb f H=>?_
  exact X gb _ _ _ _ f H (A08 (s.heap.objs.size+1) d) ⟨_,o,a,.none,rfl,z.2.1,z.2.2,r.up f.up f.pre⟩
end
end
section
section
variable {c:Cx}{k:Nat}{S:Sg}
noncomputable def W3 (nx:Nx)(t:TM)(b:SM):Nat->Nat->SM
 |0,_=>fun _ _=>none
 |n+1,i=>fun V Z=>(nx i Z).bind fun r=>match r with
  |none=>some (.next,V,Z)
  |some d=>(t V Z d).bind fun y=>(b y.1 y.2).bind fun z=>match z.1 with
   | .next=>W3 nx t b n (i+1) z.2.1 z.2.2
   | .cont=>W3 nx t b n (i+1) z.2.1 z.2.2
   | .brk=>some (.next,z.2.1,z.2.2)
   | .ret v=>some (.ret v,z.2.1,z.2.2)
theorem A52 (nx:Nx)(t:TM)(b:SM)(n i:Nat)(V:Sl)(Z:Mu):W3 nx t b (n+1) i V Z=(nx i Z).bind fun r=>match r with
  |none=>some (.next,V,Z)
  |some d=>(t V Z d).bind fun y=>(b y.1 y.2).bind fun z=>match z.1 with
   | .next=>W3 nx t b n (i+1) z.2.1 z.2.2
   | .cont=>W3 nx t b n (i+1) z.2.1 z.2.2
   | .brk=>some (.next,z.2.1,z.2.2)
   | .ret v=>some (.ret v,z.2.1,z.2.2):=rfl
noncomputable def R8 (q:IM)(t:TM)(b:SM):SM:=fun V Z=>(q V Z).bind fun r=>W3 r.1 t b (r.2.1+1) 0 V r.2.2
inductive A4r (c:Cx)(S:Sg)(env:Env)(ga:Heap)(s1z:Ad)(B1z:List Addr)(fs:List (Addr×Hd))(nx:Nx)(t:TM)(b:SM)(R:ItR)(r:Fl×Sl×Mu)(m:Nat)(s':Ad):Prop
 |mk (i:Nat)(gb:Heap)(B2z:List Addr)(Z2z:Mu)(σ₂:Sl)(ownb:Own)(h:Ev ga s1z B1z gb s' B2z)(T:St c S env gb s' B2z Z2z (fo ownb++fs) σ₂)(q:R i gb B2z ownb)(e:W3 nx t b m i σ₂ Z2z=some r):A4r c S env ga s1z B1z fs nx t b R r m s'
theorem Yc {target y:Expr}{body:List Stmt}{pos:Pos}{q:IM}{t:TM}{b:SM}(H:SI c k S target y q)(z:STa c k S target t)(Y:SXs c k S body b)
  (O:∀G x,Lg y G x=pure x):SX c k S (.For target y body [] pos) (R8 q t b):=by
 intro A G g s B Z J V fl V' Z' Q E l T e X;have P:=l.1;refine Aw e fun zy69 W e=>?_;refine wpAny_For ?_ (O G);refine H A G g s B Z J V zy69.1 zy69.2.1 zy69.2.2 _ E P T W fun u s1z L iv own R K I ok F=>?_;refine codeAny_forLoop_any (A4r c S G u s1z L J zy69.1 t b R (fl,V',Z')) ?_ (zy69.2.1+1)
  ⟨0,u,L,zy69.2.2,V,own,Ev.refl _ _ _,I,F,e⟩
 rintro m j ⟨i,gb,B2z,Z2z,σ₂,ownb,h2z,T2z,rb,e⟩;cases m with
 |zero=>cases e
 |succ m=>
  refine Aw e fun r D e=>?_;cases r with
  |none=>
   replace X:=X.cast e;refine ok.done P.hh T2z rb D fun M p U o=>?_;show A1 c.M A (execs [] G) _ _ p;exact Al (X M p B2z _ ((K.trans h2z).trans U) o .next)
  |some d=>
   refine Aa fun C=>?_;refine Aw e fun zy70 N e=>?_;refine Aw e fun zy71 a e=>?_;obtain⟨fl3,V4z,Z4z⟩:=zy71;refine C ?_;refine ok.item P.hh T2z rb D (Q:=fun v p=>A1 c.M A (assign target G v) (fun _ j=>A1 c.M A (execs body G) (fun f p=>match f with
      | .next| .cont=>∃m',m'<m+1/\_
      | .brk=>_
      | .ret v=>_) _ j) _ p) (fun M p own3 v U o rc rv=>?_) (fun v s' h=>h)
   refine z A G M p B2z Z2z _ σ₂ d v zy70.1 zy70.2 _ _ P.own o rv N fun gd sd B4z ev4 T4z=>?_;refine Y A G gd sd B4z zy70.2 _ zy70.1 fl3 V4z Z4z _ _ ⟨P.own,l.2⟩ T4z a fun g5 s5z B5z w ev5 T5z r5=>?_;have n:=((h2z.trans U).trans ev4).trans ev5;cases r5 with
   |next=>exact⟨m,Gm _,⟨i+1,g5,B5z,Z4z,V4z,own3,n,T5z,(ok.mono rc (ev4.trans ev5).up (ev4.trans ev5).pre),e⟩⟩
   |cont=>exact⟨m,Gm _,⟨i+1,g5,B5z,Z4z,V4z,own3,n,T5z,(ok.mono rc (ev4.trans ev5).up (ev4.trans ev5).pre),e⟩⟩
   |brk=>exact X.cast e g5 s5z B5z _ (K.trans n) T5z.own_drop .next
   |ret rv=>exact X.cast e g5 s5z B5z _ (K.trans n) T5z.own_drop (.ret rv)
end
end
section
section
variable {c:Cx}{k:Nat}{S:Sg}{env:Env}{g:Heap}{s:Ad}{B:List Addr}{Z:Mu}{fs:List (Addr×Hd)}{V:Sl}
noncomputable def tst (a:List Expr)(G:Env):Sem Bool:=Adl a true fun c r=>if r=true then do let k<-isTrue c G (eval c G);pure (He k) else pure (He r)
noncomputable def Vs (e Y:Expr)(gens:List Hr)(d:Nat)(q g:Ac)(G:Env):Sem Fin:=
 match gens[d+1]? with
 |some N=>do
  let x<-eval N.iter G
  Aik N.iter.pos
  if(N.is_async != 0)=true then do
   let x<-foldedIterable N.iter x
   let y<-holding [x] (if(N.is_async != 0)=true then asyncIter x else Z8 x)
   let _<-runOwn (.compStart e (d+1) y g G) G
   again (.compLoop e d q g G)
  else do
   let x<-Lg N.iter G x
   let y<-holding [x] (if(N.is_async != 0)=true then asyncIter x else Z8 x)
   let _<-runOwn (.compStart e (d+1) y g G) G
   again (.compLoop e d q g G)
 |none=>(eval Y G >>= fun x=>call (.builtin "list.append") [g,x] >>= fun _=>pure ()) >>= fun _=>again (.compLoop e d q g G)
theorem Ajj {Y:Expr}{gens:List Hr}{D:M6}{pos:Pos}{d:Nat}{q g:Ac}{G:Env}{target y:Expr}{a:List Expr}(M:gens[d]?=some ⟨target,y,a,0⟩):
  compTurn (.ListComp Y gens D pos) d q g G=(do
   Aik y.pos
   match<-Ata q with
   |none=>pure (.done .next)
   |some v=>
    Rz target q v
    assign target G v
    let k<-tst a G
    if k=true then Vs (.ListComp Y gens D pos) Y gens d q g G
    else again (.compLoop (.ListComp Y gens D pos) d q g G)):=by
 unfold compTurn Vs tst;simp only[M,bne_self_eq_false,Ch,if_false];cases gens[d+1]?<;>rfl
theorem Adv {Y:Expr}{gens:List Hr}{D:M6}{pos:Pos}{d:Nat}{q g:Ac}{G:Env}{target y:Expr}{a:List Expr}(M:gens[d]?=some ⟨target,y,a,0⟩){A:Bs}{R:Ic->Ad->Prop}(I:Nat->Ad->Prop)
  (t:∀n s,I n s->A1 c.M A (Ata q) (fun r s1z=>match r with
   |none=>R (.ok .next) s1z
   |some v=>A1 c.M A (Rz target q v) (fun _ l=>A1 c.M A (assign target G v) (fun _ j=>A1 c.M A (tst a G) (fun k p=>
     if k=true then A1 c.M A (Vs (.ListComp Y gens D pos) Y gens d q g G) (fun H f=>H=.again (.compLoop (.ListComp Y gens D pos) d q g G)/\∃m,m<n/\I m f) (Aqx c.M A G fun e s'=>R (.error e) s') p else ∃m,m<n/\I m p)
     (Aqx c.M A G fun e s'=>R (.error e) s') j) (Aqx c.M A G fun e s'=>R (.error e) s') l) (Aqx c.M A G fun e s'=>R (.error e) s') s1z) (Aqx c.M A G fun e s'=>R (.error e) s') s)
  (n:Nat)(h:I n s):I1 c.M A (.compLoop (.ListComp Y gens D pos) d q g G) R s:=by
 refine codeAny_loop rfl I (fun n s B=>?_) n h;show A1 _ _ ((compTurn (.ListComp Y gens D pos) d q g G).onRaise (fun x=>do Aat x G;theTreesLotGoes x)) _ _ s;refine wpAny_noted ?_;rw[Ajj M];refine Ag (Df (Ag (Do (t n s B) (fun r s1z K=>?_) fun _ _ h'=>h')));cases r with
 |none=>exact Al K
 |some v=>
  refine Ag (Do K (fun _ j i=>Ag (Do i (fun _ p X=>Ag (Do X (fun k f o=>?_) fun _ _ h'=>h')) fun _ _ h'=>h')) fun _ _ h'=>h');cases k with
  |false=>exact Al ⟨rfl,o⟩
  |true=>exact Do o (fun H J b=>by obtain⟨rfl,b⟩:=b;exact⟨rfl,b⟩) fun _ _ h'=>h'
theorem Abm {Y:Expr}{gens:List Hr}{D:M6}{pos:Pos}{d:Nat}{q g:Ac}{G:Env}{target y:Expr}{a:List Expr}(M:gens[d]?=some ⟨target,y,a,0⟩){A:Bs}{R:Ic->Ad->Prop}
  (I:I1 c.M A (.compLoop (.ListComp Y gens D pos) d q g G) R s)
  (h:A1 c.M A (Z8 q) (fun i s'=>I1 c.M A (.compLoop (.ListComp Y gens D pos) d i g G) R s') (Aqx c.M A G fun x s'=>R (.error x) s') s):
  I1 c.M A (.compStart (.ListComp Y gens D pos) d q g G) R s:=by
 refine codeAny_of_tree ?_;show A1 _ _ ((compStart (.ListComp Y gens D pos) d q g G).onRaise (fun x=>do Aat x G;Aik theWindowsPlace)) _ _ s;refine wpAny_notedAt ?_;have m:(clausesOf (.ListComp Y gens D pos))[d]?=some ⟨target,y,a,0⟩:=M;unfold compStart;rw[m];show A1 _ _ (ask >>= _) _ _ s;refine Ag (wpAny_askSetting (wpAny_ite ?_));split
 ·first
   |exact Ag (Al (Al (Ad7 rfl I)))
   |exact Al (Ad7 rfl I)
 ·first
   |exact Ag (S7 (Ag (Df (Ag (Do h (fun i s' h'=>Al (Ad7 rfl h')) fun _ _ x=>x)))))
   |(refine Ag (S7 ?_);show A1 _ _ (Aik y.pos >>= _) _ _ s;exact Ag (Df (Ag (Do h (fun i s' h'=>Al (Ad7 rfl h')) fun _ _ x=>x))))
end
end
section
section
variable {c:Cx}{k:Nat}{S:Sg}{env:Env}{g:Heap}{s:Ad}{B:List Addr}{Z:Mu}{fs fs':List (Addr×Hd)}{V:Sl}
theorem St.perm (T:St c S env g s B Z fs V)(p:fs.Perm fs'):St c S env g s B Z fs' V:=by
 obtain⟨m,F,P⟩:=T.fst;have q:((env.locals,Hd.ns m)::fs).Perm ((env.locals,Hd.ns m)::fs'):=p.cons _;exact⟨T.kind,T.glob,T.blt,T.sc,⟨m,⟨F.keep,F.bare,F.len,F.mu,F.dead,F.nd,F.liv,fun x R=>F.fr x (q.mem_iff.mpr R),(q.map (·.1)).nodup_iff.mp F.fnd,F.top,F.tab,F.tnd⟩,P⟩,T.loc,T.own,T.inj,T.cap,T.names,T.len,T.known⟩
theorem AOk.perm {A:Bs}(x:AOk A k ((env.locals,HK.ns)::fs.map kd))(p:fs.Perm fs'):AOk A k ((env.locals,HK.ns)::fs'.map kd):=
 x.mono fun a h=>((p.map kd).cons (env.locals,HK.ns)).mem_iff.mp h
theorem Api (a b:Own)(r:List (Addr×Hd)):(fo a++(fo b++r)).Perm (fo b++(fo a++r)):=by
 rw[<-Az,<-Az];exact List.Perm.append_right _ List.perm_append_comm
noncomputable def DL (g:Heap)(o:Obj)(l:List PV):Prop:=∃(vs:List Ac) (n:Nat),o={cls:=.type "list",dict:=none,data:=.seq vs.toArray n,slots:= #[]}∧PRs g l vs
theorem DL.up {g N:Heap}{o:Obj}{l:List PV}(x:DL g o l)(u:Up g N):DL N o l:=x.elim fun vs k=>k.elim fun n k=>⟨vs,n,k.1,k.2.up u⟩
noncomputable abbrev CM:=Sl->Mu->List PV->Option (Sl×Mu×List PV)
noncomputable def U2 (nx:Nx)(t:TM)(b:BM)(f:CM):Nat->Nat->CM
 |0,_=>fun _ _ _=>none
 |n+1,i=>fun V Z l=>(nx i Z).bind fun r=>match r with
  |none=>some (V,Z,l)
  |some d=>(t V Z d).bind fun y=>(b y.1 y.2).bind fun z=>if z.1=true then(f y.1 z.2 l).bind fun w=>U2 nx t b f n (i+1) w.1 w.2.1 w.2.2 else U2 nx t b f n (i+1) y.1 z.2 l
theorem Ao2 (nx:Nx)(t:TM)(b:BM)(f:CM)(n i:Nat)(V:Sl)(Z:Mu)(l:List PV):U2 nx t b f (n+1) i V Z l=(nx i Z).bind fun r=>match r with
  |none=>some (V,Z,l)
  |some d=>(t V Z d).bind fun y=>(b y.1 y.2).bind fun z=>if z.1=true then(f y.1 z.2 l).bind fun w=>U2 nx t b f n (i+1) w.1 w.2.1 w.2.2 else U2 nx t b f n (i+1) y.1 z.2 l:=rfl
noncomputable def SC (c:Cx)(k:Nat)(S:Sg)(D:Addr)(m:Env->Sem Fin)(again:Env->Fin)(f:CM):Prop:=
 ∀(A:Bs)(G:Env)(g:Heap)(s:Ad)(B:List Addr)(Z:Mu)(J:List (Addr×Hd))(a:Obj)(V:Sl)(l:List PV)(V':Sl)(Z':Mu)(j:List PV)(Q:Ad->Prop)(E:Ac->Ad->Prop),
  AOk A k ((G.locals,HK.ns)::J.map kd)->St c S G g s B Z (fo [(D,a)]++J) V->DL g a l->f V Z l=some (V',Z',j)->
  (∀N s' I o,Ev g s B N s' I->St c S G N s' I Z' (fo [(D,o)]++J) V'->DL N o j->Q s')->A1 c.M A (m G) (fun H s'=>H=again G/\Q s') E s
noncomputable def SBs (c:Cx)(k:Nat)(S:Sg)(a:List Expr)(f:BM):Prop:=
 ∀(A:Bs)(G:Env)(g:Heap)(s:Ad)(B:List Addr)(Z:Mu)(J:List (Addr×Hd))(V:Sl)(d:Bool)(Z':Mu)(Q:Bool->Ad->Prop)(E:Ac->Ad->Prop),
  AOk A k ((G.locals,HK.ns)::J.map kd)->St c S G g s B Z J V->f V Z=some (d,Z')->
  KB c S G g s B Z' J V (Q d)->A1 c.M A (tst a G) Q E s
noncomputable def T2:BM:=fun _ Z=>some (true,Z)
theorem Aac:SBs c k S [] T2:=by
 intro A G g s B Z J V d Z' Q E P T e X;replace X:=X.cast e;exact wpAny_tests_nil (X g s B (Ev.refl _ _ _) T)
theorem Azq {e:Expr}{f:BM}(h:SB c k S e f):SBs c k S [e] f:=by
 intro A G g s B Z J V d Z' Q E P T e X;exact wpAny_tests_one (h A G g s B Z J V d Z' _ _ P T e X)
inductive A3e (c:Cx)(S:Sg)(env:Env)(g:Heap)(s:Ad)(B:List Addr)(fs:List (Addr×Hd))(D:Addr)(nx:Nx)(t:TM)(b:BM)(f:CM)(R:ItR)(r:Sl×Mu×List PV)(m:Nat)(s':Ad):Prop
 |mk (i:Nat)(gb:Heap)(B2z:List Addr)(Z2z:Mu)(σ₂:Sl)(ownb:Own)(oD2:Obj)(lb:List PV)(h:Ev g s B gb s' B2z)(T:St c S env gb s' B2z Z2z (fo ownb++(fo [(D,oD2)]++fs)) σ₂)(q:R i gb B2z ownb)(d:DL gb oD2 lb)(e:U2 nx t b f m i σ₂ Z2z lb=some r):
  A3e c S env g s B fs D nx t b f R r m s'
theorem Ara {elt:Expr}{gens:List Hr}{scope:M6}{pos:Pos}{d:Nat}{it:Ac}{D:Addr}{target iter:Expr}{ifs:List Expr}{nx:Nx}{t:TM}{b:BM}{f:CM}(hg:gens[d]?=some ⟨target,iter,ifs,0⟩)
  (ht:STa c k S target t)(hb:SBs c k S ifs b)
  (hin:∀it,SC c k S D (Vs (.ListComp elt gens scope pos) elt gens d it (.ref D)) (fun env=>.again (.compLoop (.ListComp elt gens scope pos) d it (.ref D) env)) f)
  {A:Bs}{own:Own}{Ri:ItR}{oD:Obj}{l:List PV}{n:Nat}{V':Sl}{Z':Mu}{l':List PV}{R:Ic->Ad->Prop}(hA:AOk A k ((env.locals,HK.ns)::fs.map kd))
  (T:St c S env g s B Z (fo own++(fo [(D,oD)]++fs)) V)(ok:Agj c target it nx Ri)(r:Ri 0 g B own)(hD:DL g oD l)(e:U2 nx t b f n 0 V Z l=some (V',Z',l'))
  (hR:∀g' s' B' oD',Ev g s B g' s' B'->St c S env g' s' B' Z' (fo [(D,oD')]++fs) V'->DL g' oD' l'->R (.ok .next) s'):
  I1 c.M A (.compLoop (.ListComp elt gens scope pos) d it (.ref D) env) R s:=by
 refine Adv hg (A3e c S env g s B fs D nx t b f Ri (V',Z',l')) ?_ n
  ⟨0,g,B,Z,V,own,oD,l,Ev.refl _ _ _,T,r,hD,e⟩
 rintro m s2z ⟨i,gb,B2z,Z2z,σ₂,ownb,oD2,lb,h2z,T2z,rb,D2z,e⟩;cases m with
 |zero=>cases e
 |succ m=>
  refine Aw e fun rr e2 e=>?_;cases rr with
  |none=>
   cases e;exact ok.done hA.hh T2z rb e2 fun gc s3z ev3 T3z=>hR gc s3z B2z oD2 (h2z.trans ev3) T3z (D2z.up ev3.up)
  |some x=>
   refine Aw e fun zy74 e3 e=>?_;refine Aw e fun zy75 e4 e=>?_;obtain⟨tb,Z4z⟩:=zy75;refine ok.item hA.hh T2z rb e2 (Q:=fun v s1z=>A1 c.M A (assign target env v) (fun _ s2z=>A1 c.M A (tst ifs env) (fun okk s3z=>
     if okk=true then _ else ∃m',m'<m+1/\_) _ s2z) _ s1z) (fun gc s3z own3 v ev3 T3z rc rv=>?_) (fun v s' h=>h)
   have hA':∀own oD,AOk A k ((env.locals,HK.ns)::(fo own++(fo [(D,oD)]++fs)).map kd):=fun own oD=>(hA.own (own:=[(D,oD)])).own;refine ht A env gc s3z B2z Z2z _ σ₂ x v zy74.1 zy74.2 _ _ (hA' _ _) T3z rv e3 fun gd sd B4z ev4 T4z=>?_;refine hb A env gd sd B4z zy74.2 _ zy74.1 tb Z4z _ _ (hA' _ _) T4z e4 fun g5 s5z B5z ev5 T5z=>?_;have ev:=((h2z.trans ev3).trans ev4).trans ev5;have rf:=ok.mono rc (ev4.trans ev5).up (ev4.trans ev5).pre;have D5z:=D2z.up ((ev3.trans ev4).trans ev5).up;cases tb with
   |false=>
    exact⟨m,Gm _,⟨i+1,g5,B5z,Z4z,zy74.1,own3,oD2,lb,ev,T5z,rf,D5z,e⟩⟩
   |true=>
    refine Aw e fun zy76 e5 e=>?_;refine hin it A env g5 s5z B5z Z4z (fo own3++fs) oD2 zy74.1 lb zy76.1 zy76.2.1 zy76.2.2 _ _ hA.own (T5z.perm (Api _ _ _)) D5z e5 fun g7 s7z B7z oD7 ev7 T7z D7z=>?_;exact⟨m,Gm _,⟨i+1,g7,B7z,zy76.2.1,zy76.1,own3,oD7,zy76.2.2,ev.trans ev7,T7z.perm (Api _ _ _),ok.mono rf ev7.up ev7.pre,D7z,e⟩⟩
theorem Wo {A:Bs}{E:Ac->Ad->Prop}{l:Addr}{vs:List Ac}{n:Nat}{w:Ac}{Q:Ac->Ad->Prop}(N:IsL s.heap l vs.toArray n)(hz:vs.length<=16777216)
  (h:∀b,IsL (s.heap.update l (Fp fun xs=>xs.push w)) l (vs++[w]).toArray b→Q .none {s with heap:=s.heap.update l (Fp fun xs=>xs.push w)}):A1 c.M A (call (.builtin "list.append") [.ref l,w]) Q E s:=by
 have C:=Uy N (fun xs=>xs.push w);rw[show vs.toArray.push w=(vs++[w]).toArray from by simp] at C;exact P8 PySem.F.slot_list_append ⟨_,N,rfl⟩ PySem.F.entry_list_append (PySem.F.args_list_append_2 _ _) (list_append l vs.toArray n w (by simpa[C7] using hz)) ⟨N,h _ C⟩
noncomputable def Nt (a:EM):CM:=fun V Z l=>(a V Z).bind fun x=>x.1.p?.bind fun v=>if l.length<=16777216 then some (V,x.2,l++[v]) else none
theorem Wg {e f:Expr}{gens:List Hr}{d:Nat}{O:Ac}{D:Addr}{a:EM}(K:gens[d+1]?=none)(M:SE c k S f a):SC c k S D (Vs e f gens d O (.ref D)) (fun G=>.again (.compLoop e d O (.ref D) G)) (Nt a):=by
 intro A G g s B Z J oD V l V' Z' j Q E P T hD e X;refine Aa fun z=>?_;refine Aw e fun x W e=>Aw e fun v L e=>?_;refine z ?_;rw[show x=(.p v,x.2) from A87 (MV.p_i L) rfl] at W
 ·have N:=(Am e).1;replace e:=(Am e).2;cases e;unfold Vs;rw[K];refine Ag (Ag (M A G g s B Z _ V (.p v) x.2 _ _ P.own T W fun u s1z R w m I F=>?_));refine Aa fun y=>?_;refine exe2 (hD.up m.up) fun vs n r=>?_;obtain⟨U,i⟩:=r;subst U;refine y ?_;refine Ag (Wo (l:=D) (vs:=vs) (n:=n) ((I.own_get (Cd _)).1) (i.length▸N) fun t C=>?_);refine Aa fun h=>?_;refine I.own_stepE (tk:=s1z.toks) (fun b o Y e=>(Es ..).extBut b o (by simpa using Y) e) [(D,{cls:=.type "list",dict:=none,data:=.seq (vs++[w]).toArray t,slots:= #[]})] (G9 _) (fun q hq=>by rw[A6.mp hq];exact⟨C,A30 rfl rfl⟩) fun gb p H _=>?_
  refine h ?_;refine Al (Al ⟨rfl,X gb _ R _ (m.trans p) H ⟨vs++[w],t,rfl,?_⟩⟩);replace F:=F.inv;exact(i.append (PRs.one F)).up p.up
end
end
section
section
variable {c:Cx}{k:Nat}{S:Sg}{env:Env}{g:Heap}{s:Ad}{B:List Addr}{Z:Mu}{fs fs':List (Addr×Hd)}{V:Sl}
theorem FSt.perm (F:FSt c g s B Z fs)(q:fs.Perm fs'):FSt c g s B Z fs':=
 ⟨F.keep,F.bare,F.len,F.mu,F.dead,F.nd,F.liv,fun x R=>F.fr x (q.mem_iff.mpr R),(q.map (·.1)).nodup_iff.mp F.fnd,F.top,F.tab,F.tnd⟩
theorem FSt.less (F:FSt c g s B Z fs)(q:fs'.Sublist fs):FSt c g s B Z fs':=
 ⟨F.keep,F.bare,F.len,F.mu,F.dead,F.nd,F.liv,fun x R=>F.fr x (q.subset R),F.fnd.sublist (q.map (·.1)),F.top,F.tab,F.tnd⟩
theorem FSt.add (F:FSt c g s B Z fs){a:Addr}{q:Hd}(U:q.Ok s.heap a)(O:g.get? a=none)(C:a∉B)(G:a∉fs.map (·.1)):FSt c g s B Z ((a,q)::fs):=
 ⟨F.keep,F.bare,F.len,F.mu,F.dead,F.nd,F.liv,fun x R=>by
  rcases Av.mp R with rfl|R
  ·exact⟨U,O,C⟩
  ·exact F.fr x R,by rw[qk];exact C4.mpr ⟨G,F.fnd⟩,F.top,F.tab,F.tnd⟩
theorem FSt.old (F:FSt c g s B Z fs){a:Addr}(h:s.heap.objs.size<=a):a∉B/\a∉fs.map (·.1):=by
 refine⟨fun b=>?_,fun O=>?_⟩
 ·obtain⟨o,e⟩:=F.liv a b;exact absurd h (Ry.mpr (D5 e))
 ·obtain⟨q,hq,rfl⟩:=Bj.mp O;exact absurd h (Ry.mpr (F.fr q hq).1.lt)
theorem FSt.cut {N:Heap}{s':Ad}{I:List Addr}{Z':Mu}(F:FSt c N s' I Z' fs)(f:B<+:I):
  ∃gb,Up N gb/\FSt c gb s' B (Z'.take B.length) fs/\(∀a o,a∉Hh c B fs->s'.heap.get? a=some o->gb.get? a=some o):=by
 let gb:=sub s'.heap fun b=>(N.get? b).isSome|| !(Hh c B fs).contains b
 have A:Up N gb:=fun b o e=>by
  rw[Cw,if_pos (by simp[e])];exact F.keep _ _ e
 have z:∀a,N.get? a=none->a∈Hh c B fs->gb.get? a=none:=fun a U O=>by
  rw[Cw,if_neg (by simp[U,O])]
 refine⟨gb,A,?_,fun a o U O=>?_⟩
 ·refine⟨fun b o e=>?_,F.bare,?_,fun i o a H M=>?_,fun i a H M=>?_,F.nd.sublist f.sublist,fun a M=>F.liv a (f.subset M),fun q hq=>?_,F.fnd,F.top.up A,fun q hq=>?_,F.tnd⟩
  ·rw[Cw] at e;split at e
   ·exact e
   ·exact A2 e
  ·rw[Ef];have:=f.length_le;rw[F.len] at this;exact Eq.symm (H1 this)
  ·rw[J0] at H;replace H:=(Am H).2;obtain⟨U,O⟩:=F.mu i o a H (M3 f M);exact⟨z a U (by unfold Hh;simp[Bo M]),O.up A fun _ e=>e⟩
  ·rw[J0] at H;replace H:=(Am H).2;obtain⟨o,e⟩:=F.dead i a H (M3 f M);exact⟨o,A _ _ e⟩
  ·exact⟨(F.fr q hq).1,z _ (F.fr q hq).2.1 (by unfold Hh;simp only[B6];exact .inr (.inl (C6 hq))),fun h=>((F.fr q hq).2.2) (f.subset h)⟩
  ·obtain⟨U,ps,O,C⟩:=F.tab q hq;exact⟨z _ U (by unfold Hh;simp only[B6];exact .inr (.inr (C6 hq))),ps,O,C.up A⟩
 ·rw[Cw,if_pos (by simp[U])];exact O
theorem St.own_notρ (T:St c S env g s B Z fs V):∀a∈I3 S env,a∉B:=fun a M b=>by
 obtain⟨m,F,_⟩:=T.fst;refine exe2 (Acn M) fun i x d=>?_;obtain⟨U,O⟩:=d;obtain⟨_,a',D,C,G,R,_⟩:=T.own i x U;cases O.symm.trans C;obtain⟨j,E⟩:=Hf b;cases L:Z[j]? with
 |none=>
  have r:=(Aq.mp E).1;rw[F.len] at r;rw[Ep] at L;exact C0 L r
 |some w=>
  cases w with
  |none=>obtain⟨o,e⟩:=F.dead j a L E;cases G.symm.trans e
  |some o=>exact(F.mu j o a L E).2.notCell R
theorem St.own_notW (T:St c S env g s B Z fs V){m:Str->Option Ac}(z:s.heap.Ns env.locals m):∀a∈I3 S env,a∉Hh c B ((env.locals,.ns m)::fs):=fun a M=>by
 refine Aa fun w=>?_;obtain⟨m',F,_⟩:=T.fst;have e:m=m':=by funext x;exact z.agree (F.fr _ (.head _)).1 x
 subst e;refine exe2 (Acn M) fun i x b=>?_;obtain⟨U,O⟩:=b;obtain⟨_,a',D,C,G,R,_⟩:=T.own i x U;refine w ?_;rw[O] at C;cases C;unfold Hh;simp only[B6];rintro (h|h|h)
 ·exact(T.own_notρ a M) h
 ·obtain⟨q,hq,rfl⟩:=Bj.mp h;exact(F.fr q hq).1.nec R rfl
 ·obtain⟨q,hq,rfl⟩:=Bj.mp h;obtain⟨_,ps,r,_⟩:=F.tab q hq;obtain⟨J,Q,E⟩:=R;rw[Q] at r;cases r;cases E
theorem St.back (T:St c S env g s B Z fs V){gb:Heap}{s':Ad}{Z':Mu}{fs2:List (Addr×Hd)}{m:Str->Option Ac}(z:s.heap.Ns env.locals m)(u:Up g gb)(os:s'.os=s.os)
  (L:∀a∈I3 S env,∀o,s.heap.get? a=some o->gb.get? a=some o)(Y:FSt c gb s' B Z' ((env.locals,.ns m)::fs2)):
  ∃gc,Ev g s B gc s' B/\St c S env gc s' B Z' fs2 V/\UpN gb gc:=by
 refine Aa fun t=>?_;obtain⟨mz,F,P⟩:=T.fst;have e:m=mz:=by funext x;exact z.agree (F.fr _ (.head _)).1 x
 subst e;refine t ?_
 let gc:=sub s'.heap fun b=>(gb.get? b).isSome&& !((I3 S env).contains b)
 have p:∀a∈I3 S env,g.get? a=none/\∃ov,s.heap.IsCell a ov/\gb.IsCell a ov:=fun a M=>by
  refine Aa fun j=>?_;obtain⟨i,x,U,O⟩:=Acn M;obtain⟨_,a',ov,C,G,R,_⟩:=T.own i x U;cases O.symm.trans C;obtain⟨J,Q,E⟩:=id R;exact j ⟨G,ov,R,J,L a M J Q,E⟩
 have un:UpN gb gc:=fun b o e K=>by
  rw[Cw,if_pos]
  ·exact Y.keep _ _ e
  ·simp only[e,Jn,Fv,Fn,Iy,decide_eq_false_iff_not];intro M;obtain⟨_,ov,_,J,Q,E⟩:=p b M;rw[e] at Q;cases Q;exact K _ E
 have A:Up g gc:=fun b o e=>by
  rw[Cw,if_pos]
  ·exact Y.keep _ _ (u _ _ e)
  ·simp only[(u _ _ e),Jn,Fv,Fn,Iy,decide_eq_false_iff_not];intro M;have:=(p b M).1;cases e.symm.trans this
 have n:∀b,gb.get? b=none->gc.get? b=none:=fun b e=>by
  rw[Cw,if_neg (by simp[e])]
 have I:FSt c gc s' B Z' ((env.locals,.ns m)::fs2):=by
  refine⟨fun b o e=>?_,Y.bare,Y.len,fun i o a H M=>?_,fun i a H M=>?_,Y.nd,Y.liv,fun q hq=>?_,Y.fnd,F.top.up A,fun q hq=>?_,Y.tnd⟩
  ·rw[Cw] at e;split at e
   ·exact e
   ·exact A2 e
  ·obtain⟨U,O⟩:=Y.mu i o a H M;exact⟨n _ U,O.ups (Ac6 un)⟩
  ·obtain⟨o,e⟩:=Y.dead i a H M;refine⟨o,?_⟩;rw[Cw,if_pos]
   ·exact Y.keep _ _ e
   ·simp only[e,Jn,Fv,Fn,Iy,decide_eq_false_iff_not];exact fun h=>T.own_notρ a h (Bo M)
  ·obtain⟨U,O,C⟩:=Y.fr q hq;exact⟨U,n _ O,C⟩
  ·obtain⟨U,ps,zz32⟩:=Y.tab q hq;exact⟨n _ U,ps,zz32.1,zz32.2.upN un⟩
 refine⟨gc,Ev.same A os,?_,un⟩;refine⟨T.kind,T.glob,T.blt,T.sc,⟨m,I,fun i x d U O=>?_⟩,T.loc,fun i x h=>?_,T.inj,fun i x d U O=>?_,T.names,T.len,T.known⟩
 ·obtain⟨v,C,G⟩:=P i x d U O;exact⟨v,C,G.up A (Bi _)⟩
 ·refine Aa fun l=>?_;obtain⟨U,a,ov,y⟩:=T.own i x h;have O:=y.1;have C:=y.2.1;have G:=y.2.2.1;have R:=y.2.2.2;have M:=Xe h O;obtain⟨_,ov',X⟩:=p a M;obtain⟨o1,W,w⟩:=X.1;obtain⟨o2,D,r⟩:=X.2;obtain⟨o3,zz18⟩:=G;have N:=zz18.1;have d3:=zz18.2;refine l ?_;rw[N] at W;cases W;rw[d3] at w;cases w;refine⟨U,a,ov,O,?_,⟨o2,Y.keep _ _ D,r⟩,fun d hd=>(R d hd).elim fun v k=>⟨v,k.1,k.2.up A (Bi _)⟩⟩;rw[Cw,if_neg (by simp[M])]
 ·obtain⟨C,a,v,f⟩:=T.cap i x d U O;exact⟨C,a,v,f.1,f.2.1.keeps A,f.2.2.up A (Bi _)⟩
theorem St.ns_drop {C:Addr}{m:Str->Option Ac}(T:St c S env g s B Z ((C,.ns m)::fs) V){h':Heap}(l:Aq1 C s.heap h'):∃N,Ev g s B N {s with heap:=h'} B/\St c S env N {s with heap:=h'} B Z fs V:=by
 have hq:∃o,s.heap.get? C=some o/\U0 o:=by
  obtain⟨m',i⟩:=T.fst;obtain⟨o,h⟩:=(i.1.fr (C,.ns m) (.tail _ (.head _))).1.get;exact⟨o,h.1,h.2.1,h.2.2⟩
 refine Aa fun a=>?_;obtain⟨o,d⟩:=hq;have e:=d.1;have t:St c S env g s B Z (fo [(C,o)]++fs) V:=by
  refine Aa fun z=>?_;obtain⟨m',F,P⟩:=T.fst;refine z ?_;refine⟨T.kind,T.glob,T.blt,T.sc,⟨m',⟨F.keep,F.bare,F.len,F.mu,F.dead,F.nd,F.liv,fun q hq=>?_,F.fnd,F.top,F.tab,F.tnd⟩,P⟩,T.loc,T.own,T.inj,T.cap,T.names,T.len,T.known⟩;rcases Av.mp hq with rfl|hq
  ·exact F.fr _ (.head _)
  ·rcases Av.mp hq with rfl|hq
   ·obtain⟨U,R⟩:=F.fr (C,.ns m) (.tail _ (.head _));exact⟨⟨e,d.2⟩,R.1,R.2⟩
   ·exact F.fr q (.tail _ (.tail _ hq))
 refine t.own_stepE (tk:=s.toks) (fun b o Y e=>l.extBut b o (by simpa using Y) e) [] (Os _) (fun q hq=>by cases hq) fun N f H _=>?_;refine a ?_;exact⟨N,f,H⟩
noncomputable def Ei (cells:List (Str×Addr)):List (Str×Eb)->List (Str×Addr)->List (Str×Addr)
 |[],g=>g
 |(n,k)::r,g=>if k==.free then Ei cells r ((n,(cells.lookup n).getD 0)::g) else Ei cells r g
theorem Mz (cells:List (Str×Addr))(n:Str)(k:Eb)(r:List (Str×Eb))(acc:List (Str×Addr)):Ei cells ((n,k)::r) acc=if k==.free then Ei cells r ((n,(cells.lookup n).getD 0)::acc) else Ei cells r acc:=rfl
theorem Aoc {A:Bs}{E:Ac->Ad->Prop}{D:M6}{Q:List (Str×Addr)->Ad->Prop}(h:∀x∈D.names,x.2=.free->(env.cells.lookup x.1).isSome=true)(X:Q (Ei env.cells D.names []) s):
  A1 c.M A (Bbq D env) Q E s:=by
 have key:∀(names:List (Str×Eb)) (g:List (Str×Addr)) (Q:List (Str×Addr)->Ad->Prop),(∀x∈names,x.2=.free->(env.cells.lookup x.1).isSome=true)->Q (Ei env.cells names g) s->
   A1 c.M A (Adl names g fun x r=>if(x.2==.free)=true then do let a<-cellOf env x.1;pure (He ((x.1,a)::r)) else pure (He r)) Q E s:=by
  intro names;induction names with
  |nil=>intro g Q h X;rw[Q7];exact Al X
  |cons x r J=>
   intro g Q h X;obtain⟨n,k⟩:=x;rw[Iw];rw[Mz] at X;dsimp only at X |-
   split at X
   ·rename_i hk;rw[if_pos hk];obtain⟨a,M⟩:=Dh.mp (h _ (.head _) (Ew hk));rw[M] at X;exact Ag (Ag (wpAny_cellOf M (Al (J _ Q (fun x R=>h x (.tail _ R)) X))))
   ·rename_i hk;rw[if_neg hk];exact Ag (Al (J _ Q (fun x R=>h x (.tail _ R)) X))
 exact Ag (key D.names [] _ h (Al X))
theorem Wv {cells:List (Str×Addr)}:∀(names:List (Str×Eb)) (g:List (Str×Addr)),(∀n a,(n,a)∈g->a=(cells.lookup n).getD 0)->∀n a,(n,a)∈Ei cells names g->a=(cells.lookup n).getD 0
 |[],g,h,n,a,e=>h n a e
 |(x,k)::r,g,h,n,a,e=>by
  rw[Mz] at e;split at e
  ·exact Wv r _ (fun n a z=>by
    rcases Av.mp z with q|z
    ·cases q;rfl
    ·exact h n a z) n a e
  ·exact Wv r g h n a e
theorem Yn {cells:List (Str×Addr)}{p:Str×Addr}:∀(names:List (Str×Eb)) (g:List (Str×Addr)),p∈g->p∈Ei cells names g
 |[],g,h=>h
 |(x,k)::r,g,h=>by
  rw[Mz];split
  ·exact Yn r _ (.tail _ h)
  ·exact Yn r _ h
theorem Abl {cells:List (Str×Addr)}{x:Str}:∀(names:List (Str×Eb)) (g:List (Str×Addr)),(x,Gp)∈names->(x,(cells.lookup x).getD 0)∈Ei cells names g
 |(y,k)::r,g,h=>by
  rw[Mz];rcases Av.mp h with q|h
  ·cases q;exact Yn r _ (.head _)
  ·split
   ·exact Abl r _ h
   ·exact Abl r _ h
theorem U3 {x:Str}{a:Addr}:∀{l:List (Str×Addr)},(x,a)∈l->∃b,l.lookup x=some b
 |(y,b)::r,h=>by
  rw[Ff];cases q:x==y with
  |true=>exact⟨b,rfl⟩
  |false=>
   rcases Av.mp h with e|h
   ·cases e;simp at q
   ·exact U3 h
theorem Zi {cells:List (Str×Addr)}{x:Str}{a:Addr}(names:List (Str×Eb))(z:(x,Gp)∈names)(M:cells.lookup x=some a):(Ei cells names []).lookup x=some a:=by
 obtain⟨b,Y⟩:=U3 (Abl (cells:=cells) names [] z);have:=Wv names [] (fun _ _ h=>by cases h) x b (mem_of_lookup Y);rw[M] at this;rw[Y,this];rfl
theorem Nd:∀(n:Nat) (names:List (Str×Eb)) (g:List (Str×Addr)),G8 n names g=G8 n names []++g
 |n,[],g=>rfl
 |n,(x,k)::r,g=>by
  unfold G8;split
  ·rw[Nd (n+1) r ((x,n)::g),Nd (n+1) r [(x,n)],Az];rfl
  ·exact Nd n r g
theorem Qv {x:Str}{a:Addr}:∀(n:Nat) (names:List (Str×Eb)) (g:List (Str×Addr)),(x,a)∈G8 n names g->(x,Wa)∈names\/(x,a)∈g
 |n,[],g,h=>.inr h
 |n,(y,k)::r,g,h=>by
  unfold G8 at h;split at h
  ·rename_i hk;rcases Qv _ r _ h with h|h
   ·exact .inl (.tail _ h)
   ·rcases Av.mp h with e|h
    ·cases e;rw[Ew hk];exact .inl (.head _)
    ·exact .inr h
  ·rcases Qv _ r _ h with h|h
   ·exact .inl (.tail _ h)
   ·exact .inr h
theorem Ad1 {x:Str}{l r:List (Str×Addr)}:(l++r).lookup x=(l.lookup x).or (r.lookup x):=by
 induction l with
 |nil=>rfl
 |cons p l J=>
  obtain⟨y,b⟩:=p;rw[qo,Ff,Ff];cases q:x==y with
  |true=>rfl
  |false=>exact J
end
end
section
section
variable {c:Cx}{k:Nat}{S:Sg}{env:Env}{g:Heap}{s:Ad}{B:List Addr}{Z:Mu}{fs fs':List (Addr×Hd)}{V:Sl}
noncomputable def V0 (G:Env)(names:List (Str×Eb)):List (Str×Eb):=names.map fun x=>match x with
 |(n,k)=>if(k==.free&&G.scope.kind==.function&&G.kindOf n==some .cell)=true then(n,.cell) else(n,k)
noncomputable def Aw5 (S:Sg)(names:List (Str×Eb)):List (Str×Eb):=names.map fun x=>if(x.2==.free&&S.names.lookup x.1==some .cell)=true then(x.1,.cell) else x
theorem Akp (U:env.scope.kind=.function)(O:env.scope.names=S.names)(names:List (Str×Eb)):V0 env names=Aw5 S names:=by
 refine X4 fun x _=>?_;obtain⟨n,k⟩:=x;dsimp only;rw[U,show env.kindOf n=S.names.lookup n from by show env.scope.names.lookup n=_;rw[O]];simp
noncomputable def Ii (G:Env)(scope:M6)(n:Nat):Env:=
 {(Z7 scope n G.globals (G8 (n+1) scope.names (Ei G.cells scope.names [])) G.qual none .none (some G) F2) with scope:={scope with names:=V0 G scope.names}}
noncomputable def NsQ (n:Nat)(P:Ad->Prop)(s':Ad):Prop:=∃m,s'.heap.Ns (n+1) m/\∀h',Aq1 (n+1) s'.heap h'->P {s' with heap:=h'}
noncomputable def CQ (c:Cx)(A:Bs)(Q E:Ac->Ad->Prop)(n:Nat):Option (Ac->Sem Unit)->Ic->Ad->Prop
 |_,.error _,_=>False
 |none,.ok _,s'=>NsQ n (Q (.ref n)) s'
 |some u,.ok _,s'=>A1 c.M A (u (.ref n)) (fun _=>NsQ n (Q .none)) E s'
theorem Awq {M:Mg}{A:Bs}{D:M6}{z:List (Str×Addr)}{P:Env->Ad->Prop}{E:Ac->Ad->Prop}{s:Ad}{n:Nat}(K:s.heap.objs.size=n)
  (h:P (Z7 D n env.globals (G8 (n+1) D.names z) env.qual none .none (some env) F2) {s with heap:=Jb (s.heap.push {cls:=.type "dict",data:=.dict #[]}) D.names}):
  A1 M A (As9 D env.globals z [] env.qual none .none (some env)) P E s:=by
 subst K;refine Ag (wpAny_alloc ?_);refine Ag (wpAny_layCells _ (fun name kind cells=>by cases a:kind==Wa<;>simp[a]) _ _ _ _ ?_);rw[Fx];exact Ag (Al (Al h))
theorem Aey {A:Bs}{E:Ac->Ad->Prop}{Q:Ac->Ad->Prop}{Y target y:Expr}{a:List Expr}{rest:List Hr}{D:M6}{pos p:Pos}{use:Option (Ac->Sem Unit)}
  (l:∀x,Lg y env x=pure x)(b:D.kind=.function)(o:∀x∈D.names,x.2=.local->(V0 env D.names).lookup x.1=some .local)
  (e:∀x∈D.names,x.2=.free->(env.cells.lookup x.1).isSome=true)
  (h:A1 c.M A (eval y env) (fun x s1z=>A1 c.M A (Z8 x) (fun O j=>
   I1 c.M A (.compStart (.ListComp Y (⟨target,y,a,0⟩::rest) D pos) 0 O (.ref j.heap.objs.size) (Ii env D (j.heap.objs.size+1))) (CQ c A Q E j.heap.objs.size use)
    {j with heap:=Jb ((j.heap.push {cls:=.type "list",data:=.seq #[]}).push {cls:=.type "dict",data:=.dict #[]}) D.names}) E s1z) E s):
  A1 c.M A (comprehension (.ListComp Y (⟨target,y,a,0⟩::rest) D pos) D env p (newList []) false (eval y env) use) Q E s:=by
 refine Ag (Do h (fun x s1z K=>Ag (Df (Ag (A8p (l x) (Ag (Ci (Do K (fun O j i=>
  wpAny_standIf (Ag (Li (hd:=by size_fits) (Ag (Aoc e (Ag (Awq (n:=j.heap.objs.size+1) (Fx ..) ?_))))))) fun _ _ h'=>h'))))))) fun _ _ h'=>h')
 have F:∀x∈(D.names.filter fun x=>(x.2==.local||x.2==.cell)&&x.1 != (".0":Str)).reverse,x.2=.local→
   Env.kindOf (Ii env D (j.heap.objs.size+1)) x.1=some .local:=fun x R N=>o x (A8e.mp (Tc.mp R)).1 N
 refine Ci (Ag (Ayw (Ci (wpAny_run (codeAny_mono i fun r s' d=>?_)))));cases r with
 |error x=>cases use<;>exact d.elim
 |ok f=>
  cases use with
  |none=>
   exact d.elim fun m q=>Ag (Ci (wpAny_comp_letGo (cenv:=Ii env D (j.heap.objs.size+1)) b _ s' m F q.1 fun h' m' _ g=>Al (q.2 h' g)))
  |some u=>
   exact Ag (S7 (Ag (Ci (Do d (fun _ W k=>k.elim fun m q=>Ag (wpAny_comp_letGo (cenv:=Ii env D (j.heap.objs.size+1)) b _ W m (fun x R N=>(B6.mp R).elim (fun U=>F x (Atk U) N) fun U=>F x (Atl U) N) q.1 fun h' m' _ g=>Al (q.2 h' g))) fun _ _ h'=>h'))))
noncomputable def Ax6 (S:Sg)(names:List (Str×Eb))(S':Sg)(x:Str)(X:Option Nat):VK->Bool
 | .loc=>X.isNone&&S'.names.lookup x==some .local
 | .own=>X.isNone&&(names.lookup x==some .cell&&S'.names.lookup x==some .cell)
 | .cap=>X.any fun j=>((S.vars[j]?).any fun q=>q.1==x&&q.2 != .loc)&&((S'.names.lookup x==some .cell||S'.names.lookup x==some .free)&&(names.contains (x,.free)&& !(names.contains (x,.cell))))
noncomputable def Apg (S:Sg)(names:List (Str×Eb))(S':Sg)(caps:List (Option Nat)):Bool:=
 decide (S'.names=Aw5 S names)&&(S'.known.isEmpty&&(decide (S'.vars.map (·.1)).Nodup&&(caps.length==S'.vars.length&&
 ((S'.vars.zip caps).all (fun p=>Ax6 S names S' p.1.1 p.2 p.1.2)&&
 names.all fun x=>(x.2 != .free||S'.vars.contains (x.1,.cap))&&(x.2 != .local||S'.names.lookup x.1==some .local)))))
structure Ats (S:Sg)(names:List (Str×Eb))(S':Sg)(caps:List (Option Nat)):Prop where
 nm:S'.names=Aw5 S names
 kn:S'.known=[]
 nd:(S'.vars.map (·.1)).Nodup
 len:caps.length=S'.vars.length
 vars:∀p∈S'.vars.zip caps,Ax6 S names S' p.1.1 p.2 p.1.2=true
 all:∀x∈names,((x.2 != .free||S'.vars.contains (x.1,.cap))&&(x.2 != .local||S'.names.lookup x.1==some .local))=true
theorem Avi {S':Sg}{names:List (Str×Eb)}{caps:List (Option Nat)}(h:Apg S names S' caps=true):Ats S names S' caps:=by
 have q1:=Ca.mp h;have q2:=Ca.mp q1.2;have q3:=Ca.mp q2.2;have T:=Ca.mp q3.2;have d:=Ca.mp T.2;exact⟨of_decide_eq_true q1.1,Ta.mp q2.1,of_decide_eq_true q3.1,Ew T.1,Bd.mp d.1,Bd.mp d.2⟩
noncomputable def Pi (caps:List (Option Nat))(V:Sl):Sl:=caps.map fun
 |none=>none
 |some j=>(V[j]?).join
noncomputable def Yl (caps:List (Option Nat))(V:Sl):Bool:=caps.all fun
 |none=>true
 |some j=>((V[j]?).join).isSome
theorem Amv {S':Sg}{names:List (Str×Eb)}{caps:List (Option Nat)}(F:Ats S names S' caps){i:Nat}{x:Str}{vk:VK}(h:S'.vars[i]?=some (x,vk)):∃X,caps[i]?=some X/\Ax6 S names S' x X vk=true:=by
 have H:=F.len.symm▸(Aq.mp h).1;exact⟨caps[i],Bx H,F.vars ((x,vk),caps[i]) (Bo (Alq.mpr ⟨h,Bx H⟩))⟩
theorem Ape {S':Sg}{names:List (Str×Eb)}{caps:List (Option Nat)}(F:Ats S names S' caps){i:Nat}{x:Str}(h:S'.vars[i]?=some (x,.loc)):caps[i]?=some none/\S'.names.lookup x=some .local:=
 (Amv F h).elim fun X q=>have z:=Ca.mp q.2;⟨Aii.mp z.1▸q.1,Ew z.2⟩
theorem Apf {S':Sg}{names:List (Str×Eb)}{caps:List (Option Nat)}(F:Ats S names S' caps){i:Nat}{x:Str}(h:S'.vars[i]?=some (x,.own)):caps[i]?=some none/\names.lookup x=some .cell/\S'.names.lookup x=some .cell:=
 (Amv F h).elim fun X q=>have z:=Ca.mp q.2;have y:=Ca.mp z.2;⟨Aii.mp z.1▸q.1,Ew y.1,Ew y.2⟩
structure Bbx (S:Sg)(names:List (Str×Eb))(S':Sg)(caps:List (Option Nat))(i:Nat)(x:Str)(j:Nat)(vk:VK):Prop where
 cap:caps[i]?=some (some j)
 var:S.vars[j]?=some (x,vk)
 ne:vk≠.loc
 knd:S'.names.lookup x=some .cell\/S'.names.lookup x=some .free
 fr:(x,Gp)∈names
 nc:(x,Wa)∉names
theorem Ai7 {u:Type}{o:Option u}{p:u->Bool}(h:o.any p=true):∃a,o=some a/\p a=true:=match o,h with|some a,h=>⟨a,rfl,h⟩
theorem Apd {S':Sg}{names:List (Str×Eb)}{caps:List (Option Nat)}(F:Ats S names S' caps){i:Nat}{x:Str}(h:S'.vars[i]?=some (x,.cap)):∃j vk,Bbx S names S' caps i x j vk:=
 (Amv F h).elim fun X q=>(Ai7 q.2).elim fun j z=>by
  have c:=Ca.mp z.2;have k:=Ca.mp c.2;have d:=Ca.mp k.2;exact(Ai7 c.1).elim fun p w=>have w2:=Ca.mp w.2;⟨j,p.2,z.1▸q.1,w.1.trans (congrArg some (A87 (Ew w2.1) rfl)),bne_iff_ne.mp w2.2,(Bool.or_eq_true_iff.mp k.1).imp Ew Ew,Kj.mp d.1,fun R=>nomatch (Kj.mpr R▸d.2:(!true)=true)⟩
theorem Afh {o:Option (Option MV)}{d:MV}(h:o.join=some d):o=some (some d):=Option.join_eq_some_iff.mp h
theorem St.comp (T:St c S env g s B Z fs V){D:M6}{S':Sg}{caps:List (Option Nat)}(hk:D.kind=.function)(Q:Apg S D.names S' caps=true)(w:Yl caps V=true){m:Str->Option Ac}(R:s.heap.Ns env.locals m):
  let h3z:=Jb ((s.heap.push {cls:=.type "list",data:=.seq #[]}).push {cls:=.type "dict",data:=.dict #[]}) D.names
  let gC:=Qe g s (Hh c B ((env.locals,.ns m)::fs))
  St c S' (Ii env D (s.heap.objs.size+1)) gC {s with heap:=h3z} B Z (fo [(s.heap.objs.size,{cls:=.type "list",data:=.seq #[]})]++((env.locals,.ns m)::fs)) (Pi caps V):=by
 intro h3z gC;refine Aa fun G=>?_;obtain⟨m',F,P⟩:=T.fst;have em:m=m':=by funext x;exact R.agree (F.fr _ (.head _)).1 x
 subst em;refine G ?_;have hsz1:(s.heap.push {cls:=.type "list",data:=.seq #[]}).objs.size=s.heap.objs.size+1:=Fx ..
 have hsz2:((s.heap.push {cls:=.type "list",data:=.seq #[]}).push {cls:=.type "dict",data:=.dict #[]}).objs.size=s.heap.objs.size+1+1:=by rw[Fx,hsz1]
 have up2:Up ((s.heap.push {cls:=.type "list",data:=.seq #[]}).push {cls:=.type "dict",data:=.dict #[]}) h3z:=fun b o e=>X5 _ _ b o e
 have A:Up s.heap h3z:=fun b o e=>up2 _ _ (E6 _ _ _ _ (E6 _ _ b o e));have upC:Up g gC:=Ih F.keep _;have hgC:∀a,s.heap.objs.size<=a->gC.get? a=none:=fun a M=>Hl (Aeu _) M;have hD:h3z.get? s.heap.objs.size=some {cls:=.type "list",data:=.seq #[]}:=up2 _ _ (E6 _ _ _ _ (Cy _ rfl))
 have Y:h3z.Ns (s.heap.objs.size+1) fun _=>none:=by
  have:=Aog (s.heap.push {cls:=.type "list",data:=.seq #[]}) (.type "dict")
  rw[hsz1] at this;exact this.keeps up2
 have I:=((F.call.stay (s':={s with heap:=h3z}) A F.bare).add (q:=.obj {cls:=.type "list",data:=.seq #[]}) (a:=s.heap.objs.size) ⟨hD,A30 rfl rfl⟩ (hgC _ (At _)) (F.old (a:=s.heap.objs.size) (At _)).1 (F.old (a:=s.heap.objs.size) (At _)).2).add (q:=.ns fun _=>none) (a:=s.heap.objs.size+1) Y (hgC _ (J1 _)) (F.old (a:=s.heap.objs.size+1) (J1 _)).1 (fun h=>by
  rcases Av.mp h with h|h
  ·exact absurd h (Nat.succ_ne_self _)
  ·exact(F.old (a:=s.heap.objs.size+1) (J1 _)).2 h)
 have FC:=Avi Q;have hnm:V0 env D.names=S'.names:=by rw[Akp T.kind T.sc];exact FC.nm.symm
 have hkd:∀x,Env.kindOf (Ii env D (s.heap.objs.size+1)) x=S'.names.lookup x:=fun x=>by
  show(V0 env D.names).lookup x=_;rw[hnm]
 have k:=cellsFrom_ok D.names ((s.heap.push {cls:=.type "list",data:=.seq #[]}).push {cls:=.type "dict",data:=.dict #[]}) (s.heap.objs.size+1+1) [] ⟨fun _ _ R=>(nomatch R),Ait⟩ (hsz2.symm▸At _)
 rw[hsz2] at k;have f:∀x,(Ii env D (s.heap.objs.size+1)).cells.lookup x=((G8 (s.heap.objs.size+1+1) D.names []).lookup x).or ((Ei env.cells D.names []).lookup x):=fun x=>by
  show(G8 (s.heap.objs.size+1+1) D.names (Ei env.cells D.names [])).lookup x=_;rw[Nd,Ad1]
 have E:∀(i:Nat) (X:Option Nat),caps[i]?=some X->(Pi caps V)[i]?=some (match X with|none=>none|some j=>(V[j]?).join):=fun i X h=>by
  unfold Pi;rw[B0,h];cases X<;>rfl
 have L:∀i x a,S'.vars[i]?=some (x,VK.own)->(Ii env D (s.heap.objs.size+1)).cells.lookup x=some a->(G8 (s.heap.objs.size+1+1) D.names []).lookup x=some a:=fun i x a r W=>by
  obtain⟨a',M⟩:=Dh.mp (R3 D.names (s.heap.objs.size+1+1) [] (Apf FC r).2.1);rw[f,M] at W;exact M.trans W
 refine⟨hk,T.glob,T.blt,hnm,⟨fun _=>none,I,fun i x d r K=>(nomatch (E i _ (Ape FC r).1).symm.trans K)⟩,fun i x r=>(hkd x).trans (Ape FC r).2,fun i x r=>?_,fun i j x y a r K W h9=>?_,fun i x d r K=>?_,FC.nd,(Bn ..).trans FC.len,fun x a h=>by rw[FC.kn] at h;cases h⟩
 ·have q:=Apf FC r;obtain⟨a,M⟩:=Dh.mp (R3 D.names (s.heap.objs.size+1+1) [] q.2.1);have z:=k.empty _ _ (mem_of_lookup M);exact⟨(hkd x).trans q.2.2,a,none,(f x).trans (by rw[M];rfl),hgC a (Ab (Bl _ 2) z.2),z.1,fun d hd=>nomatch (E i _ q.1).symm.trans hd⟩
 ·have e:=name_of_addr k.apart (mem_of_lookup (L i x a r W)) (mem_of_lookup (L j y a K h9));subst e;refine Vt FC.nd (a:=x) ?_ ?_
  ·rw[B0,r];rfl
  ·rw[B0,K];rfl
 ·refine exe2 (Apd FC r) fun j vk' q=>?_;have K:V[j]?=some (some d):=Afh (Af ((E i _ q.cap).symm.trans K));have n:(G8 (s.heap.objs.size+1+1) D.names []).lookup x=none:=by
   cases e:(G8 (s.heap.objs.size+1+1) D.names []).lookup x with
   |none=>rfl
   |some b=>exact(Qv _ _ _ (mem_of_lookup e)).elim (fun h=>absurd h q.nc) (fun h=>nomatch h)
  have H:∀a v,env.cells.lookup x=some a->gC.IsCell a (some v)->VR gC B d v->_:=fun a v U O C=>(⟨(hkd x).symm▸q.knd,a,v,(f x).trans (by rw[n,Zi D.names q.fr U];rfl),O,C⟩:
   ((Ii env D (s.heap.objs.size+1)).kindOf x=some .cell\/(Ii env D (s.heap.objs.size+1)).kindOf x=some .free)/\∃a v,(Ii env D (s.heap.objs.size+1)).cells.lookup x=some a/\gC.IsCell a (some v)/\VR gC B d v)
  cases vk' with
  |loc=>exact absurd rfl q.ne
  |own=>
   obtain⟨_,a,t,u,l,k3,p⟩:=T.own j x q.var;obtain⟨v,rfl,N⟩:=p d K;exact k3.elim fun J z=>H a v u ⟨J,Wt (T.own_notW R a (Xe q.var u)) z.1,z.2⟩ (N.up upC (Bi _))
  |cap=>
   exact(T.cap j x d q.var K).2.elim fun a z=>z.elim fun v z=>H a v z.1 (z.2.1.keeps upC) (z.2.2.up upC (Bi _))
theorem St.comp_clos (T:St c S env g s B Z fs V){D:M6}{S':Sg}{caps:List (Option Nat)}(Q:Apg S D.names S' caps=true)(w:Yl caps V=true):
  (∀x∈D.names,x.2=.local->(V0 env D.names).lookup x.1=some .local)/\(∀x∈D.names,x.2=.free->(env.cells.lookup x.1).isSome=true):=by
 have FC:=Avi Q;have h:V0 env D.names=S'.names:=by rw[Akp T.kind T.sc];exact FC.nm.symm
 refine⟨fun x R N=>?_,fun x R O=>?_⟩
 ·have z:=(Ca.mp (FC.all x R)).2;rw[N] at z;exact h▸Ew z
 ·have z:=(Ca.mp (FC.all x R)).1;rw[O] at z;obtain⟨i,H⟩:=Hf (Kj.mp z);refine exe2 (Apd FC H) fun j vk' q=>?_;cases vk' with
  |loc=>exact absurd rfl q.ne
  |own=>exact(T.own j x.1 q.var).2.elim fun a k=>k.elim fun _ k=>by rw[k.1];rfl
  |cap=>
   obtain⟨d,hd⟩:=Dh.mp (Bd.mp w _ (Bo q.cap));exact(T.cap j x.1 d q.var (Afh hd)).2.elim fun a k=>k.elim fun _ k=>by rw[k.1];rfl
end
end
section
section
variable {c:Cx}{k:Nat}{S:Sg}{env:Env}{g:Heap}{s:Ad}{B:List Addr}{Z:Mu}{fs fs':List (Addr×Hd)}{V:Sl}
structure Td (c:Cx)(k:Nat)(S S':Sg)(elt target iter:Expr)(ifs:List Expr)(rest:List Hr)(scope:M6)(pos:Pos)(caps:List (Option Nat))(i:IM)(t:TM)(b:BM)(f:CM):Prop where
 it:SI c k S target iter i
 tg:STa c k S' target t
 tests:SBs c k S' ifs b
 items:∀D it,SC c k S' D (Vs (.ListComp elt (⟨target,iter,ifs,0⟩::rest) scope pos) elt (⟨target,iter,ifs,0⟩::rest) 0 it (.ref D)) (fun env=>.again (.compLoop (.ListComp elt (⟨target,iter,ifs,0⟩::rest) scope pos) 0 it (.ref D) env)) f
 fold:∀env x,Lg iter env x=pure x
 kind:scope.kind=.function
 fits:Apg S scope.names S' caps=true
noncomputable def A3w (caps:List (Option Nat))(i:IM)(t:TM)(b:BM)(f:CM):Sl->Mu->Option (List PV×Mu):=fun V Z=>
 (i V Z).bind fun r=>if Yl caps V=true then(U2 r.1 t b f (r.2.1+1) 0 (Pi caps V) r.2.2 []).map fun w=>(w.2.2,w.2.1.take r.2.2.length) else none
theorem Aex {S':Sg}{Y target y:Expr}{v:List Expr}{rest:List Hr}{D:M6}{pos:Pos}{caps:List (Option Nat)}{i:IM}{t:TM}{b:BM}{f:CM}(K:Td c k S S' Y target y v rest D pos caps i t b f)
  {A:Bs}{own:Own}{Ri:ItR}{nx:Nx}{O:Ac}{n:Nat}{V':Sl}{Z':Mu}{j:List PV}{R:Ic->Ad->Prop}(P:AOk A k ((env.locals,HK.ns)::fs.map kd))(T:St c S env g s B Z (fo own++fs) V)(p:Agj c target O nx Ri)(r:Ri 0 g B own)
  (w:Yl caps V=true)(e:U2 nx t b f n 0 (Pi caps V) Z []=some (V',Z',j))
  (Q:∀N s' m,Ev g s B N s' B->St c S env N s' B (Z'.take Z.length) ((s.heap.objs.size+1,.ns m)::fs) V->PR N (.list j) (.ref s.heap.objs.size)->s'.heap.Ns (s.heap.objs.size+1) m->R (.ok .next) s'):
  I1 c.M A (.compStart (.ListComp Y (⟨target,y,v,0⟩::rest) D pos) 0 O (.ref s.heap.objs.size) (Ii env D (s.heap.objs.size+1))) R
   {s with heap:=Jb ((s.heap.push {cls:=.type "list",data:=.seq #[]}).push {cls:=.type "dict",data:=.dict #[]}) D.names}:=by
 refine Aa fun C=>?_;obtain⟨m,z,F⟩:=T.ns';refine C ?_;have pm:(fo [(s.heap.objs.size,({cls:=.type "list",data:=.seq #[]}:Obj))]++((env.locals,Hd.ns m)::(fo own++fs))).Perm (fo own++(fo [(s.heap.objs.size,({cls:=.type "list",data:=.seq #[]}:Obj))]++((env.locals,Hd.ns m)::fs))):=
  (A4m.trans (A4m.cons _)).symm
 have U:=(T.comp K.kind K.fits w z).perm pm;have upC:Up g (Qe g s (Hh c B ((env.locals,.ns m)::(fo own++fs)))):=Ih F.keep _;have hA':AOk A k (((Ii env D (s.heap.objs.size+1)).locals,HK.ns)::((env.locals,Hd.ns m)::fs).map kd):=P.mono fun a h=>by
  exact .tail _ h
 have H:I1 c.M A (.compLoop (.ListComp Y (⟨target,y,v,0⟩::rest) D pos) 0 O (.ref s.heap.objs.size) (Ii env D (s.heap.objs.size+1))) R {s with heap:=Jb ((s.heap.push {cls:=.type "list",data:=.seq #[]}).push {cls:=.type "dict",data:=.dict #[]}) D.names}:=by
  refine Ara (gens:=⟨target,y,v,0⟩::rest) (d:=0) rfl K.tg K.tests (K.items _) hA' U p (p.mono r upC (Bi B)) ⟨[],0,rfl,.nil⟩ e fun g5 J x oD5 I W D5z=>?_;refine Aa fun X=>?_;obtain⟨mC,F5z,_⟩:=W.fst;have hDg:=W.own_get (q:=(s.heap.objs.size,oD5)) (Cd _);obtain⟨hC1,hC2,hC3⟩:=F5z.fr _ (.head _);have F6z:FSt c g5 J x Z' ((env.locals,.ns m)::(s.heap.objs.size+1,.ns mC)::fs):=
   (F5z.less (fs':=(s.heap.objs.size+1,.ns mC)::(env.locals,.ns m)::fs) ((Aqt _ _).cons₂ _)).perm (Adh _ _ _)
  obtain⟨gf,u6,F7z,n6⟩:=F6z.cut I.pre;have hDW:s.heap.objs.size∉Hh c B ((env.locals,.ns m)::(s.heap.objs.size+1,.ns mC)::fs):=by
   unfold Hh;simp only[B6];rintro (h|h|h)
   ·obtain⟨o,eo⟩:=F.liv _ h;exact Em _ (D5 eo)
   ·have nd':=(Adh (s.heap.objs.size,Hd.obj oD5) (s.heap.objs.size+1,Hd.ns mC) ((env.locals,Hd.ns m)::fs)).map (·.1) |>.nodup_iff.mp F5z.fnd;refine((C4.mp nd').1) ?_;simp only[qk,Av] at h |-
    rcases h with h|h|h
    ·exact .inr (.inl h)
    ·exact .inl h
    ·exact .inr (.inr h)
   ·obtain⟨q,hq,eq⟩:=Bj.mp h;obtain⟨_,ps,l,_⟩:=F.tab q hq;rw[eq] at l;exact Em _ (D5 l)
  have E:∀a∈I3 S env,∀o,s.heap.get? a=some o->gf.get? a=some o:=fun a M o eo=>u6 _ _ (I.up _ _ (Wt (T.own_notW z a M) eo));obtain⟨g7,ev7,T7z,un⟩:=T.own_drop.back z (upC.trans (I.up.trans u6)) I.os E F7z;refine X ?_;rw[T.ml] at T7z;refine Q g7 J mC ev7 T7z ?_ hC1;refine Aa fun G=>?_;obtain⟨vs,n',u,L⟩:=D5z;subst u;refine G ?_;exact .list (vs:=vs) (un _ _ (n6 _ _ hDW hDg.1) hDg.2.1.1) (L.ups fun b o eb sq=>Ac6 un b o (u6 _ _ eb) sq)
 exact Abm (gens:=⟨target,y,v,0⟩::rest) (d:=0) rfl H (p.self U (p.mono r upC (Bi B)) H)
noncomputable def Rg (caps:List (Option Nat))(i:IM)(t:TM)(b:BM)(f:CM):EM:=fun V Z=>(A3w caps i t b f V Z).map fun x=>(.p (.list x.1),x.2)
theorem Aae {S':Sg}{Y target y:Expr}{a:List Expr}{rest:List Hr}{D:M6}{pos:Pos}{caps:List (Option Nat)}{i:IM}{t:TM}{b:BM}{f:CM}(K:Td c k S S' Y target y a rest D pos caps i t b f):
  SE c k S (.ListComp Y (⟨target,y,a,0⟩::rest) D pos) (Rg caps i t b f):=by
 intro A G g s B Z J V d Z' Q E P T e X;refine Aa fun C=>?_;refine E4 e fun zy137 v r=>?_;cases r;refine Aw v fun p W e=>?_;have w:=(Am e).1;replace e:=(Am e).2;refine E4 e fun zy140 N e=>?_;subst e;obtain⟨q1,q2⟩:=T.comp_clos K.fits w;refine C ?_;refine Aey (use:=none) (K.fold G) K.kind q1 q2 (K.it A G g s B Z J V p.1 p.2.1 p.2.2 _ E P T W fun u s1z L q own x U I h F=>?_);refine Aex K P I h F w N fun gb j m n H R z=>⟨m,z,fun h' l=>?_⟩;obtain⟨M,O,o⟩:=H.ns_drop l;exact X M _ L _ ((U.trans n).trans O) o (.p (R.up O.up))
theorem Azy {S':Sg}{Y target y:Expr}{v:List Expr}{rest:List Hr}{D:M6}{pos spos xpos:Pos}{x:Str}{caps:List (Option Nat)}{i:IM}{t tx:TM}{b:BM}{f:CM}(K:Td c k S S' Y target y v rest D pos caps i t b f)
  (R:STa c k S (.Name x xpos) tx)(hsw:Fo (.ListComp Y (⟨target,y,v,0⟩::rest) D pos) (some (.Name x xpos)) spos.line (O0 S)=pure true):
  SX c k S (.Assign [.Name x xpos] (.ListComp Y (⟨target,y,v,0⟩::rest) D pos) spos) (Cp (Rg caps i t b f) tx):=by
 intro A G g s B Z J V fl V' Z' Q E w T e X;have P:=w.1;refine Aa fun zk12=>?_;refine Aw e fun zy143 e0 e=>?_;refine E4 e fun zy145 O e=>?_;cases e;refine E4 e0 fun zy147 e9 r=>?_;cases r;refine Aw e9 fun zy148 W e=>?_;have d:=(Am e).1;replace e:=(Am e).2;refine E4 e fun zy150 N e=>?_;subst e;refine zk12 ?_;rw[exec_Assign_Name_used _ _ _ _ (by rw[I9 T.kind T.sc];exact hsw)];obtain⟨q1,q2⟩:=T.comp_clos K.fits d;refine Ag (Df (Ag ?_));refine Ag ?_;refine Aey (use:=some (assign (.Name x xpos) G)) (K.fold G) K.kind q1 q2 (K.it A G g s B Z J V zy148.1 zy148.2.1 zy148.2.2 _ _ P T W fun u s1z L q own Ri U I ok F=>?_);refine Aex K P I ok F d N fun gb j m n H pr z=>?_;refine R A G gb j L _ _ V _ _ _ _ _ _ (P.mono fun a h=>by rw[qk];exact(Aqt _ _).cons₂ _ |>.subset h) H (.p pr) O fun M p C ev3 o=>?_;refine Aa fun zk15=>?_;obtain⟨mm,F3z,_⟩:=o.fst;refine zk15 ?_;refine⟨m,(F3z.fr (s1z.heap.objs.size+1,.ns m) (.tail _ (.head _))).1,fun h' l=>?_⟩;obtain⟨gd,ev4,T4z⟩:=o.ns_drop l;exact Al (Al (X gd _ C _ (((U.trans n).trans ev3).trans ev4) T4z .next))
end
end
section
section
variable {c:Cx}{k:Nat}{S:Sg}{env:Env}{g:Heap}{s:Ad}{B:List Addr}{Z:Mu}{fs:List (Addr×Hd)}{V:Sl}
noncomputable def Y6 (T:String)(Z:Mu):MV->Bool
 | .p (.str _)=>T=="str"
 | .p (.int _)=>T=="int"
 | .p (.list _)=>T=="list"
 | .mu i=>match Z[i]? with
  |some (some (.lst _))=>T=="list"
  |_=>false
 |_=>false
theorem St.ty (T:St c S env g s B Z fs V){x:MV}{v:Ac}(r:VR g B x v){n:String}(h:Y6 n Z x=true):s.TypeIs v n/\∀a,v=.ref a->∃ob,s.heap.get? a=some ob/\ob.dict=none:=by
 replace r:=r.inv;have L:∀{a its k},v=.ref a→IsL s.heap a its k→("list"==n)=true→s.TypeIs v n∧∀a,v=.ref a→∃ob,s.heap.get? a=some ob∧ob.dict=none:=fun ea t en=>by
  rw[ea,<-Ew en];exact⟨⟨_,t,rfl⟩,fun b q=>⟨_,Aeh q▸t,rfl⟩⟩
 cases x with
 |p y=>
  replace r:=r.inv;cases y with
  |str z=>obtain⟨t,e⟩:=r;rw[e,Ew h];exact⟨Qa ..,fun a e=>nomatch e⟩
  |int z=>obtain⟨t,e⟩:=r;rw[e,Ew h];exact⟨typeIs_int ..,fun a e=>nomatch e⟩
  |list z=>obtain⟨a,vs,m,e,t,_⟩:=r;exact L e (T.keep _ _ t) ((BEq.comm ..).trans h)
  |_=>exact nomatch h
 |mu i=>
  obtain⟨a,e,ha⟩:=r;obtain⟨m,F,_⟩:=T.fst;have hm:∀o,Z[i]?=some (some o)->MR g s.heap a o:=fun o hi=>(F.mu _ _ _ hi ha).2;have h:(match Z[i]? with|some (some (.lst _))=>n=="list"|_=>false)=true:=h;generalize Z[i]?=q at h hm;cases q with
  |none=>exact nomatch h
  |some q=>cases q with
   |none=>exact nomatch h
   |some o=>cases o with
    |lst l=>obtain⟨vs,n,t,_⟩:=(hm _ rfl).l;exact L e t ((BEq.comm ..).trans h)
    |_=>exact nomatch h
 |tup=>exact nomatch h
noncomputable def Gq (T:String)(a:EM)(t:LM)(f:List MV->Mu->Option (MV×Mu)):EM:=fun V Z=>(a V Z).bind fun x=>if Y6 T x.2 x.1=true then(t V x.2).bind fun y=>f (x.1::y.1) y.2 else none
theorem G6 {o:Expr}{name:Str}{t pos:Pos}{C:List Expr}{T id:String}{a:EM}{la:LM}{f:List MV->Mu->Option (MV×Mu)}(M:SE c k S o a)(N:SL c k S C la)(O:ON c k (fun vs=>call (.builtin id) vs) f)
  (pa:Bbp T)(slot:Slot T name id)(hty:Bbr (.builtin id)=pure (.type "method_descriptor"))
  (hbase:∀G,Qo o name G (eval o G)=eval o G)(l:∀G,(E7 C G).any (·.1)=false)(h:C.length<30)(hst:∀G,(E7 C G).length=C.length)
  (Y:(t.endLine==pos.line)=true):SE c k S (.Call (.Attribute o name t) C [] pos) (Gq T a la f):=by
 intro A G g s B Z J V d Z' Q E P T e X;refine Aa fun r=>?_;refine Aw e fun zy48 W e=>?_;obtain⟨x,n⟩:=zy48;have z:=(Am e).1;replace e:=(Am e).2;refine Aw e fun zy49 D e=>?_;refine r ?_;have hany:(Aed pos (E7 C G)).any (·.1)=false:=by rw[Fb];exact l G
 have hall:(Aed pos (E7 C G)).all (fun x=> !x.1)=true:=by
  rw[Bd];intro y hy;have:=A20.mp hany y hy;simpa using this
 refine Lh (hbase G) (by rw[hall,Fv];exact decide_eq_true (show C.length+0<30 from h)) Y pa slot hty ?_;refine M A G g s B Z J V x n _ E P T W fun u s1z L v K I F=>?_;refine⟨(I.ty F z).1,(I.ty F z).2,?_⟩;refine Gv hany (Dr hany ?_);refine N pos A G u s1z L n J V zy49.1 zy49.2 _ E P I D fun gb j q vs i H rb=>?_;exact O S A G gb j q zy49.2 J V (x::zy49.1) (v::vs) d Z' Q E P H (.cons (F.up i.up i.pre) rb) e fun b p m w R U rc=>X b p m w ((K.trans i).trans R) U rc
theorem Aiy {t:List Ac->Sem Ac}{f:List MV->Mu->Option (MV×Mu)}(h:∀xs Z y,f xs Z=some y->∃x,xs=[x])(H:O1 c k (fun v=>t [v]) fun x=>f [x]):ON c k t f:=fun S A G g s B Z J V xs vs d Z' Q E P T i e X=>by
 obtain⟨x,rfl⟩:=h xs Z _ e;obtain⟨v,rfl,r⟩:=i.i1;exact H S A G g s B Z J V x v d Z' Q E P T r e X
theorem Al6 {t:List Ac->Sem Ac}{f:List MV->Mu->Option (MV×Mu)}(h:∀xs Z y,f xs Z=some y->∃x y,xs=[x,y])(H:O2 c k (fun v w=>t [v,w]) fun x y=>f [x,y]):ON c k t f:=fun S A G g s B Z J V xs vs d Z' Q E P T i e X=>by
 refine exe2 (h xs Z _ e) fun x y u=>?_;subst u;refine exe2 i.i2 fun v w F=>?_;obtain⟨rfl,r,Y⟩:=F;exact H S A G g s B Z J V x y v w d Z' Q E P T r Y e X
noncomputable def i1F (F:Int->Option PV):List MV->Mu->Option (MV×Mu):=fun xs Z=>((Ahu xs).bind MV.i?).bind fun a=>(F a).map fun r=>(.p r,Z)
theorem At1 {t:List Ac->Sem Ac}{F:Int->Option PV}
  (H:∀{A:Bs}{s:Ad}{Q E:Ac->Ad->Prop}{a:Int}{u:Tok}{r:PV},F a=some r->(∀{w:Ac},(∀g,PR g r w)->∀tk,Q w {s with toks:=tk})->A1 c.M A (t [.int a u]) Q E s):ON c k t (i1F F):=
 fun S A G g s B Z J V xs vs d Z' Q E P T i e X=>Aw e fun a W D=>Aw W fun x N O=>Ur D fun r j b=>by
  cases Zo N;cases MV.i_i O;obtain⟨v,rfl,q⟩:=i.i1;obtain⟨u,rfl⟩:=q.pl;exact H j fun p tk=>X.tk T b (p g) tk
noncomputable def A6m (x:MV)(Z:Mu):Option (MV×Mu):=(E0 Z x).bind fun l=>if l.length<=16384 then some (.p (.int l.length),Z) else none
noncomputable def Tw:List MV->Mu->Option (MV×Mu):=fun xs Z=>(Ahu xs).bind fun x=>match x with
 | .p y=>(match y with
  | .str a=>if a.length<2^62 then some (.p (.int a.length),Z) else none
  | .bytes b=>if b.size<=1099511627776 then some (.p (.int b.size),Z) else none
  |y=>A6m (.p y) Z)
 |x=>A6m x Z
theorem Qq:ON c k (fun vs=>call (.builtin "len") vs) Tw:=Aiy (fun xs Z y e=>Aw e fun x W _=>⟨x,Zo W⟩) fun S A G g s B Z J V x v d Z' Q E P T r e X=>by
 have L:∀{x:MV} {v:Ac},VR g B x v→((E0 Z x).bind fun l=>if l.length≤16384 then some (MV.p (.int l.length),Z) else none)=some (d,Z')→A1 c.M A (call (.builtin "len") [v]) Q E s:=fun r e=>Aw e fun l W D=>by
  refine exe2 (T.lst r W) fun a ws z=>?_;obtain⟨rfl,t,Y⟩:=z;exact(kun_lenL t (k:=(l.length:Int)) (by rw[D4,Y.length]) (D7.mpr (Am D).1) (X.tk T (Am D).2 (.int _ _) _))
 cases x with
 |p y=>cases y with
  |str a=>obtain⟨t,rfl⟩:=r.pl;exact Agf (by have:=(Am e).1;clear P X T;lia) (X.tk T (Am e).2 (.int _ _) _)
  |bytes a=>obtain⟨t,rfl⟩:=r.pl;exact len_bytes (Am e).1 (X.tk T (Am e).2 (.int _ _) _)
  |_=>exact L r e
 |_=>exact L r e
noncomputable def A46:List MV->Mu->Option (MV×Mu):=i1F fun a=>some (.int (if a<0 then -a else a))
theorem A4z:ON c k (fun vs=>call (.builtin "abs") vs) A46:=At1 fun e q=>call_abs_int fun u tk=>q (fun _=>Af e▸.int _ u) tk
noncomputable def A06:List MV->Mu->Option (MV×Mu)
 |[.p (.int a)],Z=>some (.p (.int a),Z)
 |[.p (.str x)],Z=>(PySem.intText? x).bind fun n=>if x.length<=640 then some (.p (.int n),Z) else none
 |_,_=>none
theorem At2:ON c k (fun vs=>call (.type "int") vs) A06:=Aiy (fun xs Z y e=>by
 cases xs with
 |nil=>exact A2 e
 |cons x l=>cases l with
  |nil=>exact⟨x,rfl⟩
  |cons y l=>cases x with
   |p x=>cases x<;>exact A2 e
   |_=>exact A2 e) fun S A G g s B Z J V x v d Z' Q E P T r e X=>by
 cases x with
 |p y=>cases y with
  |int a=>obtain⟨t,rfl⟩:=r.pl;exact call_int_int (X.sm T e (.int _ _))
  |str a=>obtain⟨t,rfl⟩:=r.pl;exact Aw e fun n W D=>KIN.call_text W (Am D).1 (X.tk T (Am D).2 (.int _ _) _)
  |_=>exact A2 e
 |_=>exact A2 e
noncomputable def Amz:List MV->Option (Int×Int)
 |[x,y]=>x.i?.bind fun a=>y.i?.map fun b=>(a,b)
 |_=>none
theorem Afd {xs:List MV}{a b:Int}(h:Amz xs=some (a,b)):xs=[.p (.int a),.p (.int b)]:=by
 match xs,h with
 |[x,y],h=>exact Aw h fun a W D=>E4 D fun b N O=>by cases O;rw[MV.i_i W,MV.i_i N]
noncomputable def Uc:List MV->Mu->Option (MV×Mu):=fun xs Z=>(Amz xs).bind fun r=>if r.2≠0/\r.2.natAbs<big then some (.p (.tuple [.int (r.1.fdiv r.2),.int (r.1.fmod r.2)]),Z) else none
theorem Aej:ON c k (fun vs=>call (.builtin "divmod") vs) Uc:=fun S A G g s B Z J V xs vs d Z' Q E P T i e X=>Aw e fun r W D=>by
 cases Afd (a:=r.1) (b:=r.2) W;refine exe2 i.i2 fun v w o=>?_;obtain⟨rfl,p,q⟩:=o;obtain⟨t,rfl⟩:=p.pl;obtain⟨u,rfl⟩:=q.pl;refine divmod_int (Am D).1.1 ?_ (.inl (Xg (Am D).1.2));have R:=T.ev (h':=s.heap.push {cls:=.type "tuple",data:=.seq #[.int (r.1.fdiv r.2) s.toks,.int (r.1.fmod r.2) (s.toks+1)]}) (fun _ _ e=>E6 _ _ _ _ e) (s.toks+1+1)
 exact X.cast (Am D).2 _ _ B _ R.2 R.1 (.p (.tuple (vs:=[.int (r.1.fdiv r.2) s.toks,.int (r.1.fmod r.2) (s.toks+1)]) (Vr Ge Zl) (.cons (.int _ _) (.cons (.int _ _) .nil))))
noncomputable def A7k:List MV->Mu->Option (MV×Mu):=i1F fun a=>if a.natAbs<big then some (.str (oS (Kz a))) else none
theorem A1d {n:Nat}(q:n<big):n.log2<1920:=by
 by_cases I:n=0
 ·rw[I];decide
 ·exact Cv ((Agd I).mpr q) (by decide)
theorem A42:ON c k (fun vs=>call (.type "str") vs) A7k:=At1 fun e q=>PySem.P.str_of_int (A1d (Am e).1) (q (fun _=>Af (Am e).2▸.str _ _) _)
noncomputable def Aoy:List MV->Mu->Option (MV×Mu):=i1F fun a=>some (.int (Bu a))
theorem Ago:ON c k (fun vs=>call (.builtin "int.bit_length") vs) Aoy:=At1 fun e q=>call_int_bit_length (q (fun _=>Af e▸.int _ _) _)
noncomputable def Aql:List MV->Mu->Option (MV×Mu)
 |[x],Z=>match x with
  | .p y=>match y with
   | .bytes _=>some (.p (.typ "bytes"),Z)
   |_=>none
  |_=>none
 |_,_=>none
theorem Azp:ON c k (fun vs=>call (.type "type") vs) Aql:=Aiy (fun xs Z y e=>by
 cases xs with
 |nil=>exact A2 e
 |cons x l=>cases l with
  |nil=>exact⟨x,rfl⟩
  |cons y l=>exact A2 e) fun S A G g s B Z J V x v d Z' Q E P T r e X=>by
 cases x with
 |p y=>cases y with
  |bytes a=>obtain⟨t,rfl⟩:=r.pl;exact call_type_of (A3c s _ _) rfl (X.sm T e (.typ _))
  |_=>exact A2 e
 |_=>exact A2 e
noncomputable def Ts:List PV->Option (List Int)
 |[]=>some []
 |x::r=>x.i?.bind fun n=>(Ts r).map (n:: ·)
theorem Aho {l:List PV}:∀{ns:List Int},Ts l=some ns->l=ns.map .int:=by
 induction l with
 |nil=>exact fun e=>Af e▸rfl
 |cons x l J=>exact fun e=>Aw e fun n W D=>E4 D fun m N O=>O▸congr (congrArg List.cons (PV.i_i W)) (J N)
theorem W6 {l:List PV}{ns:List Int}{vs:List Ac}(e:Ts l=some ns)(r:PRs g l vs):IntsAre vs ns:=by
 rw[Aho e] at r;clear e;induction ns generalizing vs with
 |nil=>rw[show vs=[] from r.inv];exact .nil
 |cons n ns J=>obtain⟨v,ws,e,a,b⟩:=r.inv;obtain⟨t,K⟩:=a.inv;rw[e,K];exact .cons _ _ (J b)
noncomputable def Ak3:List PV->Option (List Str)
 |[]=>some []
 |x::r=>x.s?.bind fun n=>(Ak3 r).map (n:: ·)
theorem A15 {l:List PV}:∀{ns:List Str},Ak3 l=some ns->l=ns.map .str:=by
 induction l with
 |nil=>exact fun e=>Af e▸rfl
 |cons x l J=>exact fun e=>Aw e fun n W D=>E4 D fun m N O=>O▸congr (congrArg List.cons (PV.s_i W)) (J N)
theorem Axp {l:List PV}{ns:List Str}{vs:List Ac}(e:Ak3 l=some ns)(r:PRs g l vs):Md vs ns:=by
 rw[A15 e] at r;clear e;induction ns generalizing vs with
 |nil=>rw[show vs=[] from r.inv];exact .nil
 |cons n ns J=>obtain⟨v,ws,e,a,b⟩:=r.inv;obtain⟨t,K⟩:=a.inv;rw[e,K];exact .cons _ _ (J b)
noncomputable def A18:List MV->Mu->Option (MV×Mu)
 |[x],Z=>(E0 Z x).bind fun l=>(Ts l).map fun ns=>(.p (.int ns.sum),Z)
 |_,_=>none
theorem Akg {f:MV->Mu->Option (MV×Mu)}{xs:List MV}{Z:Mu}{y:MV×Mu}(e:(match xs,Z with|[x],Z=>f x Z|_,_=>none)=some y):∃x,xs=[x]:=by
 cases xs with
 |nil=>exact A2 e
 |cons x l=>cases l with
  |nil=>exact⟨x,rfl⟩
  |cons y l=>exact A2 e
theorem A43:ON c k (fun vs=>call (.builtin "sum") vs) A18:=Aiy (fun _ _ _ e=>Akg e) fun S A G g s B Z J V x v d Z' Q E P T r e X=>Aw e fun l W e=>Ur e fun ns D e=>
 by
  refine exe2 (T.lst r W) fun a ws b=>?_;obtain⟨rfl,t,Y⟩:=b;obtain⟨m,z⟩:=T.ns;exact A88 (fr0 z) Xf P.hh t (W6 D Y) fun h' tk f F N=>
   have R:=T.evL z (Si F N fun p I=>I) tk
   X.cast e _ _ B _ R.2 R.1 (.p (.int _ _))
noncomputable def Aka:List Int->Int
 |[]=>0
 |[a]=>a
 |a::r=>min a (Aka r)
theorem A6w (a b:Int)(r:List Int):Aka (a::b::r)=min a (Aka (b::r)):=rfl
theorem Akb:∀{l:List Int},l≠[]->Aka l∈l
 |[a],_=>.head _
 |a::b::r,_=>by
  have J:=Akb (l:=b::r) (by simp);rw[A6w];rw[Int.min_def];split
  ·exact .head _
  ·exact .tail _ J
theorem Apz:∀{l:List Int} {a:Int},a∈l->Aka l<=a
 |[b],a,h=>by simp at h;subst h;exact Agb _
 |b::d::r,a,h=>by
  rcases Av.mp h with rfl|h
  ·exact Int.min_le_left _ _
  ·exact Fh (Int.min_le_right _ _) (Apz h)
noncomputable def Anb:List MV->Mu->Option (MV×Mu)
 |[x],Z=>(E0 Z x).bind fun l=>(Ts l).bind fun ns=>if ns≠[] then some (.p (.int (Aka ns)),Z) else none
 |_,_=>none
theorem At3:ON c k (fun vs=>call (.builtin "min") vs) Anb:=Aiy (fun _ _ _ e=>Akg e) fun S A G g s B Z J V x v d Z' Q E P T r e X=>Aw e fun l W e=>Aw e fun ns D e=>
 by
  refine exe2 (T.lst r W) fun a ws b=>?_;obtain⟨rfl,t,Y⟩:=b;obtain⟨m,z⟩:=T.ns;exact kso_min (fr0 z) Xf t (W6 D Y) (G4.mpr (Am e).1) P.hh fun h' M f tk F N h o=>
   have R:=T.evL z (Si F N fun p I=>I) tk
   X.cast (Am e).2 _ _ B _ R.2 R.1 (Int.le_antisymm (o _ (Akb (Am e).1)) (Apz h)▸.p (.int _ _))
noncomputable def Abh:List MV->Mu->Option (MV×Mu)
 |[x],Z=>(E0 Z x).bind fun l=>(Ts l).bind fun ns=>if(ns.all fun n=>decide (0<=n/\n<256))=true/\l.length<=16777216 then some (.p (.bytes (byteArr ns)),Z) else none
 |_,_=>none
theorem At0:ON c k (fun vs=>call (.type "bytes") vs) Abh:=Aiy (fun _ _ _ e=>Akg e) fun S A G g s B Z J V x v d Z' Q E P T r e X=>Aw e fun l W e=>Aw e fun ns D e=>
 by
  refine exe2 (T.lst r W) fun a ws b=>?_;obtain⟨rfl,t,Y⟩:=b;exact call_bytes_ints t (W6 D Y) (fun n K=>of_decide_eq_true (Bd.mp (Am e).1.1 n K)) (by rw[Y.length,C7];exact(Am e).1.2) P.hh fun h' f tk hk=>
   X.cast (Am e).2 _ _ B _ (T.ev (h':=h') hk tk).2 (T.ev (h':=h') hk tk).1 (.p (.bytes _ _))
theorem Ac4 {f:MV->MV->Mu->Option (MV×Mu)}{xs:List MV}{Z:Mu}{y:MV×Mu}(e:(match xs,Z with|[x,y],Z=>f x y Z|_,_=>none)=some y):∃x y,xs=[x,y]:=by
 cases xs with
 |nil=>exact A2 e
 |cons x l=>cases l with
  |nil=>exact A2 e
  |cons y l=>cases l with
   |nil=>exact exi2 x y rfl
   |cons z l=>exact A2 e
noncomputable def Ab9:List MV->Mu->Option (MV×Mu)
 |[x,y],Z=>(x.s?).bind fun x=>(E0 Z y).bind fun l=>(Ak3 l).bind fun ys=>if(ys.map (·.length)).sum+ys.length*x.length<=16777216 then some (.p (.str (Cs x ys)),Z) else none
 |_,_=>none
theorem Ak5 {vs:List Ac}{ys:List Str}(h:Md vs ys):Md vs.toArray.toList ys:=h
theorem Aaa:ON c k (fun vs=>call (.builtin "str.join") vs) Ab9:=Al6 (fun _ _ _ e=>Ac4 e) fun S A G g s B Z J V x y v w d Z' Q E P T r Y e X=>Aw e fun z e0 e=>Aw e fun l W e=>Aw e fun ys D e=>
 by
  rw[MV.s_i e0] at r;obtain⟨t,rfl⟩:=r.pl;refine exe2 (T.lst Y W) fun a ws h=>?_;obtain⟨rfl,n,q⟩:=h;exact join_list n (Ak5 (Axp D q)) (Am e).1 fun f tk=>X.tk T (Am e).2 (.str _ _) tk
end
end
section
section
variable {c:Cx}{k:Nat}{S:Sg}{env:Env}{g:Heap}{s:Ad}{B:List Addr}{Z:Mu}{fs:List (Addr×Hd)}{V:Sl}
theorem St.freeze (T:St c S env g s B Z fs V){i:Nat}{a:Addr}{l:List PV}(H:Z[i]?=some (some (.lst l)))(M:B[i]?=some a):
  ∃g',Ev g s B g' s B/\St c S env g' s B (Z.set i none) fs V/\PR g' (.list l) (.ref a):=by
 obtain⟨m,F,P⟩:=T.fst;obtain⟨v,p⟩:=F.mu _ _ _ H M;have k:a∈B:=Bo M;refine exe2 p.l fun vs n f=>?_;obtain⟨t,r⟩:=f
 let g':=sub s.heap fun b=>(g.get? b).isSome||b==a
 have A:Up g g':=fun b o e=>by
  rw[Cw,if_pos (by simp[e])];exact F.keep _ _ e
 have z:∀b,g.get? b=none->b≠a->g'.get? b=none:=fun b U O=>by
  rw[Cw,if_neg (by simp[U,O])]
 have d:g'.get? a=some {cls:=.type "list",dict:=none,data:=.seq vs.toArray n,slots:= #[]}:=by
  rw[Cw,if_pos (by simp)];exact t
 have N:FSt c g' s B (Z.set i none) ((env.locals,.ns m)::fs):=by
  refine⟨fun b o e=>?_,F.bare,by rw[Mc];exact F.len,fun j o b E Y=>?_,fun j b E Y=>?_,F.nd,F.liv,fun q hq=>?_,F.fnd,F.top.up A,fun q hq=>?_,F.tnd⟩
  ·rw[Cw] at e;split at e
   ·exact e
   ·exact A2 e
  ·by_cases J:j=i
   ·subst J;rw[Fe (Aq.mp H).1] at E;cases E
   ·rw[Gf (Vd J)] at E;obtain⟨U,O⟩:=F.mu j o b E Y;exact⟨z b U (by rintro rfl;exact J (Vt F.nd Y M)),O.up A fun _ e=>e⟩
  ·by_cases J:j=i
   ·subst J;rw[M] at Y;cases Y;exact⟨_,d⟩
   ·rw[Gf (Vd J)] at E;obtain⟨o,e⟩:=F.dead j b E Y;exact⟨o,A _ _ e⟩
  ·exact⟨(F.fr q hq).1,z _ (F.fr q hq).2.1 (fun e=>((F.fr q hq).2.2) (e▸k)),((F.fr q hq).2.2)⟩
  ·obtain⟨U,ps,O,C⟩:=F.tab q hq;refine⟨z _ U (fun e=>?_),ps,O,C.up A⟩;rw[e,show s.heap.get? a=_ from t] at O;cases O
 refine⟨g',Ev.same A rfl,?_,.list d (r.up A)⟩;refine T.frame N A (Bi _) (fun m' h=>?_) fun b D U O=>⟨z b U ?_,O⟩
 ·funext x;exact h.agree (F.fr _ (.head _)).1 x
 ·rintro rfl;exact(F.mu i _ b H M).2.notCell O
mutual
noncomputable def frzV:MV->Mu->Option (PV×Mu)
 | .p x,Z=>some (x,Z)
 | .mu i,Z=>match Z[i]? with
  |some (some (.lst l))=>some (.list l,Z.set i none)
  |_=>none
 | .tup l,Z=>(frzVs l Z).map fun r=>(.tuple r.1,r.2)
noncomputable def frzVs:List MV->Mu->Option (List PV×Mu)
 |[],Z=>some ([],Z)
 |x::r,Z=>(frzV x Z).bind fun y=>(frzVs r y.2).map fun z=>(y.1::z.1,z.2)
end
noncomputable def A3g (c:Cx)(S:Sg)(G:Env)(s:Ad)(B:List Addr)(J:List (Addr×Hd))(V:Sl)(d:MV):Prop:=∀{g:Heap} {Z:Mu} (_:St c S G g s B Z J V) {v:Ac} (_:VR g B d v) {y:PV×Mu},Mine.frzV d Z=some y->∃N,Ev g s B N s B/\St c S G N s B y.2 J V/\PR N y.1 v
noncomputable def A4s (c:Cx)(S:Sg)(G:Env)(s:Ad)(B:List Addr)(J:List (Addr×Hd))(V:Sl)(d:List MV):Prop:=∀{g:Heap} {Z:Mu} (_:St c S G g s B Z J V) {v:List Ac} (_:VRs g B d v) {y:List PV×Mu},Mine.frzVs d Z=some y->∃N,Ev g s B N s B/\St c S G N s B y.2 J V/\PRs N y.1 v
theorem St.frzV' (d:MV):A3g c S env s B fs V d:=MV.rec (motive_1:=A3g c S env s B fs V) (motive_2:=A4s c S env s B fs V)
 (fun x g Z T v r y e=>Af e▸⟨g,Ev.refl _ _ _,T,r.inv⟩)
 (fun i g Z T v r y e=>r.inv.elim fun a k=>by
  rw[k.1];have hz:∀l,Z[i]?=some (some (.lst l))->∃N,Ev g s B N s B/\St c S env N s B (Z.set i none) fs V/\PR N (.list l) (.ref a):=fun l H=>T.freeze H k.2;have e:(match Z[i]? with|some (some (.lst l))=>some (PV.list l,Z.set i none)|_=>none)=some y:=e;generalize Z[i]?=q at e hz;cases q with
  |none=>exact A2 e
  |some q=>cases q with
   |none=>exact A2 e
   |some o=>cases o with
    |lst l=>exact Af e▸hz l rfl
    |_=>exact A2 e)
 (fun l J g Z T v r y e=>r.inv.elim fun a k=>k.elim fun vs k=>E4 e fun z W e=>(J T k.2.2 W).elim fun N h=>⟨N,h.1,e▸h.2.1,by rw[<-e,k.1];exact .tuple (Hu h.1.up.s k.2.1) h.2.2⟩)
 (fun{g Z} T {v} r {y} e=>⟨g,Ev.refl _ _ _,Af e▸T,by rw[<-Af e,show v=[] from r.inv];exact .nil⟩)
 (fun x l J b g Z T v r y e=>r.inv.elim fun a k=>k.elim fun vs k=>Aw e fun z W e=>E4 e fun q D e=>(J T k.2.1 W).elim fun u h=>(b h.2.1 (k.2.2.up h.1.up h.1.pre) D).elim fun gb h'=>
  ⟨gb,h.1.trans h'.1,e▸h'.2.1,by rw[<-e,k.1];exact .cons (h.2.2.up h'.1.up) h'.2.2⟩) d
theorem St.frzV (d:MV){g:Heap}{Z:Mu}(T:St c S env g s B Z fs V){v:Ac}(r:VR g B d v){p:PV}{Z':Mu}(e:Mine.frzV d Z=some (p,Z')):∃N,Ev g s B N s B/\St c S env N s B Z' fs V/\PR N p v:=St.frzV' d T r e
theorem St.muGet (T:St c S env g s B Z fs V){i:Nat}{v:Ac}(r:VR g B (.mu i) v){l:List PV}(H:Z[i]?=some (some (.lst l))):∃a vs n,v=.ref a/\B[i]?=some a/\IsL s.heap a vs.toArray n/\PRs g l vs:=
 r.inv.elim fun a k=>T.fst.elim fun _ F=>(F.1.mu _ _ _ H k.2).2.l.elim fun vs q=>q.elim fun n q=>exi3 a vs n ⟨k.1,k.2,q⟩
theorem St.muSet (T:St c S env g s B Z fs V){i:Nat}{a:Addr}{l j:List PV}(H:Z[i]?=some (some (.lst l)))(M:B[i]?=some a){vs vs':List Ac}{n:Nat}(t:IsL s.heap a vs.toArray n){f:Array Ac->Array Ac}(O:f vs.toArray=vs'.toArray)(r:PRs g j vs')(tk:Nat):
  St c S env g {s with heap:=s.heap.update a (Fp f),toks:=tk} B (Z.set i (some (.lst j))) fs V/\Ev g s B g {s with heap:=s.heap.update a (Fp f),toks:=tk} B:=by
 have C:=Uy t f;rw[O] at C;exact T.setMu H M (fun b x Y e=>((Es ..).2 b Y).trans e) (.lst C r) tk
noncomputable def Ix:List MV->Mu->Option (MV×Mu)
 |[x,y],Z=>x.m?.bind fun i=>(frzV y Z).bind fun p=>(Lq p.2 i).bind fun l=>if l.length<=16777216 then some (.p .none,p.2.set i (some (.lst (l++[p.1])))) else none
 |_,_=>none
theorem Ln:ON c k (fun vs=>call (.builtin "list.append") vs) Ix:=Al6 (fun _ _ _ e=>Ac4 e) fun S A G g s B Z J V x y v w d Z' Q E P T r Y e X=>Aw e fun i e0 e=>Aw e fun p W e=>Aw e fun l D e=>by
 rw[MV.m_i e0] at r;refine Aa fun h=>?_;obtain⟨u,U,I,j⟩:=T.frzV _ Y W;refine exe3 (I.muGet (r.up U.up U.pre) (Jx D)) fun a ws n H=>?_;obtain⟨rfl,M,t,q⟩:=H;refine h ?_;refine Wo t (by rw[q.length];exact(Am e).1) fun b _=>?_;have R:=I.muSet (Jx D) M t (f:=fun xs=>xs.push w) (vs':=ws++[w]) (Sm ..) (q.append (PRs.one j)) s.toks;exact X.cast (Am e).2 _ _ B _ (U.trans R.2) R.1 (.p .none)
noncomputable def Acu:List MV->Mu->Option (MV×Mu)
 |[x],Z=>x.m?.bind fun i=>(Lq Z i).bind fun l=>if l.length<=16777216 then some (.p .none,Z.set i (some (.lst l.reverse))) else none
 |_,_=>none
theorem Al7:ON c k (fun vs=>call (.builtin "list.reverse") vs) Acu:=Aiy (fun _ _ _ e=>Akg e) fun S A G g s B Z J V x v d Z' Q E P T r e X=>Aw e fun i e0 e=>Aw e fun l W e=>by
 rw[MV.m_i e0] at r;refine exe3 (T.muGet r (Jx W)) fun a ws n h=>?_;obtain⟨rfl,M,t,q⟩:=h;have R:=T.muSet (Jx W) M t (f:=fun x=>x.reverse) (vs':=ws.reverse) (by simp) q.reverse s.toks;exact P8 PySem.F.slot_list_reverse ⟨_,t,rfl⟩ PySem.F.entry_list_reverse (PySem.F.args_list_reverse_1 _) (PySem.AutoSeq1.list_reverse_list_0 a _ n (by rw[show ws.toArray.size=ws.length from rfl,q.length,C7];exact(Am e).1))
  ⟨t,X.cast (Am e).2 _ _ B _ R.2 R.1 (.p .none)⟩
noncomputable def A66:List MV->Mu->Option (MV×Mu)
 |[x,y],Z=>x.m?.bind fun i=>y.i?.bind fun j=>(Lq Z i).bind fun l=>if 0<=j/\l.length<=16777216 then(l[j.toNat]?).map fun x=>(.p x,Z.set i (some (.lst (l.eraseIdx j.toNat)))) else none
 |_,_=>none
theorem PRs.erase {g:Heap}{l:List PV}{vs:List Ac}(r:PRs g l vs):∀n,PRs g (l.eraseIdx n) (vs.eraseIdx n):=
 r.ind (P:=fun l vs=>∀n,PRs g (l.eraseIdx n) (vs.eraseIdx n)) (fun n=>Nat.casesOn n .nil (fun _=>.nil)) (fun a r J n=>Nat.casesOn n r (fun n=>.cons a (J n)))
theorem Akl {j:Int}{n:Nat}(I:0<=j)(M:j.toNat<n)(K:n<=16777216):Zx j=true/\Aza j n=some j.toNat:=by
 obtain⟨k,rfl⟩:=Ek I;have U:(k:Int)<n:=E3.mpr M;constructor
 ·simp[Zx];lia
 ·unfold Aza;dsimp only;rw[if_neg (K8.mpr (By k))];exact if_pos (by simp[U])
theorem A41:ON c k (fun vs=>call (.builtin "list.pop") vs) A66:=Al6 (fun _ _ _ e=>Ac4 e) fun S A G g s B Z J V x y v w d Z' Q E P T r Y e X=>Aw e fun i e0 e=>Aw e fun j W e=>Aw e fun l D e=>by
 have hz:=(Am e).1;rw[MV.m_i e0] at r;rw[MV.i_i W] at Y;refine Aa fun b=>?_;obtain⟨u,rfl⟩:=Y.pl;refine Ur (Am e).2 fun z N O=>?_;refine exe3 (T.muGet r (Jx D)) fun a ws n h=>?_;obtain⟨rfl,M,t,q⟩:=h;obtain⟨v,F,m⟩:=q.get N;refine b ?_;have p:=(Aq.mp F).1;have K:ws.length<=16777216:=q.length▸hz.2;have R:=T.muSet (Jx D) M t (f:=fun xs=>xs.eraseIdxIfInBounds j.toNat) (vs':=ws.eraseIdx j.toNat) (by rw[Array.eraseIdxIfInBounds_eq];simp[p]) (q.erase _) s.toks;exact P8 PySem.F.slot_list_pop ⟨_,t,rfl⟩ PySem.F.entry_list_pop (PySem.F.args_list_pop_2 _ _) (PySem.MeetsSeq.list_pop_at a _ n j u j.toNat v (Akl hz.1 p K).1 (Akl hz.1 p K).2 (Ed.trans F) (by rw[show ws.toArray.size=ws.length from rfl,C7];exact K))
  ⟨t,X.cast O _ _ B _ R.2 R.1 (.p (m.up R.2.up))⟩
noncomputable def A6q (Z:Mu)(x:MV):Option (List PV):=match x with
 | .p y=>match y with
  | .list l=>some l
  |_=>none
 | .mu i=>Lq Z i
 |_=>none
theorem St.lstx (T:St c S env g s B Z fs V){x:MV}{v:Ac}(r:VR g B x v){l:List PV}(e:A6q Z x=some l):∃a vs n,v=.ref a/\IsL s.heap a vs.toArray n/\PRs g l vs:=by
 cases x with
 |p y=>cases y with
  |list j=>obtain⟨a,vs,n,f,t,q⟩:=r.pl;exact exi3 a vs n ⟨f,T.keep _ _ t,Af e▸q⟩
  |_=>exact A2 e
 |mu i=>obtain⟨a,vs,n,f,_,q⟩:=T.muGet r (Jx e);exact exi3 a vs n ⟨f,q⟩
 |tup=>exact A2 e
noncomputable def Ahg:List MV->Mu->Option (MV×Mu)
 |[x,y],Z=>x.m?.bind fun i=>(A6q Z y).bind fun j=>(Lq Z i).bind fun l=>if l.length+j.length<=1000000 then some (.p .none,Z.set i (some (.lst (l++j)))) else none
 |_,_=>none
theorem Aq5:ON c k (fun vs=>call (.builtin "list.extend") vs) Ahg:=Al6 (fun _ _ _ e=>Ac4 e) fun S A G g s B Z J V x y v w d Z' Q E P T r Y e X=>Aw e fun i e0 e=>Aw e fun j W e=>Aw e fun l D e=>by
 rw[MV.m_i e0] at r;refine Aa fun C=>?_;refine exe3 (T.lstx Y W) fun b H z h=>?_;obtain⟨rfl,U,p⟩:=h;refine exe3 (T.muGet r (Jx D)) fun a ws n m=>?_;obtain⟨rfl,M,t,q⟩:=m;refine C ?_;have hz:ws.length+H.length<=1000000:=by rw[q.length,p.length];exact(Am e).1
 have R:=T.muSet (Jx D) M t (f:=fun xs=>xs++H.toArray) (vs':=ws++H) (by simp) (q.append p) s.toks;exact P8 PySem.F.slot_list_extend ⟨_,t,rfl⟩ PySem.F.entry_list_extend (PySem.F.args_list_extend_2 _ _) (PySem.AutoSeq1.list_extend_list_list_0 a _ n b _ z (by simp[P5,Ky];lia) (by rw[D4,C7];exact Ab (Bl _ _) (Ab hz (by decide))) (by rw[D4,D4,C7];exact Ab hz (by decide))) ⟨t,U,X.cast (Am e).2 _ _ B _ R.2 R.1 (.p .none)⟩
noncomputable def Zm:List MV->Mu->Option (MV×Mu)
 |[x],Z=>(A6q Z x).bind fun l=>if l.length<=16777216 then some (.mu Z.length,Z++[some (.lst l)]) else none
 |_,_=>none
theorem Aab:ON c k (fun vs=>call (.type "list") vs) Zm:=Aiy (fun _ _ _ e=>Akg e) fun S A env g s B Z J V x v d Z' Q E P T r e X=>Aw e fun l W e=>by
 refine exe3 (T.lstx r W) fun b H C a=>?_;obtain⟨rfl,U,q⟩:=a;obtain⟨m,z⟩:=T.ns;have h:b≠env.locals:=Jj z U (fun w f e=>nomatch e);refine kup_listOf (fr0 z) Xf (M1 h U) (zs:=H) (by simp) (fun D c' h' F N O=>?_) (by simp only[C7];rw[q.length];exact(Am e).1);have K:s.heap.get? D=none:=Abz (N _ (.head _)).2.1 O;have R:=T.newMu z (Si F N fun p I=>.tail _ I) s.toks K (o:=.lst l) (.lst (N _ (.head _)).1 q);exact X.cast (Am e).2 _ _ _ _ R.2 R.1 (.mu (by rw[<-T.ml];exact Gl))
noncomputable def Ar6 (x y:MV)(Z:Mu):Option (MV×Mu):=y.i?.bind fun j=>(E0 Z x).bind fun l=>if -1000000<=j/\j<=1000000/\l.length*j.toNat<=256 then some (.mu Z.length,Z++[some (.lst (Bb j.toNat l).flatten)]) else none
theorem PRs.rep {g:Heap}{l:List PV}{vs:List Ac}(r:PRs g l vs):∀n:Nat,PRs g (Bb n l).flatten (Bb n vs).flatten
 |0=>.nil
 |n+1=>by rw[Je,Je,Aas,Aas];exact r.append (PRs.rep r n)
theorem Al5:O2 c k (Lv .Mult) Ar6:=fun S A G g s B Z J V x y v w d Z' Q E _ T n H e X=>Aw e fun j e0 e=>Aw e fun l W e=>by
 rw[MV.i_i e0] at H;obtain⟨u,rfl⟩:=H.pl;refine exe2 (T.lst n W) fun a b f=>?_;obtain⟨rfl,t,q⟩:=f;obtain⟨m,z⟩:=T.ns;refine KMa.mul (fr0 z) Xf t (Fh (by decide) ((Am e).1).1) (Im ((Am e).1).2.1 (by decide)) (by rw[q.length];exact((Am e).1).2.2) rfl fun D h' F N O=>?_;have K:s.heap.get? D=none:=Abz (N _ (.head _)).2.1 O;have R:=T.newMu z (Si F N fun p I=>.tail _ I) s.toks K (o:=.lst _) (.lst (N _ (.head _)).1 (q.rep _));exact X.cast (Am e).2 _ _ _ _ R.2 R.1 (.mu (by rw[<-T.ml];exact Gl))
theorem Ahr:∀(ns:List Int),ns.length<=64->(∀n∈ns,n.natAbs<2^64)->A29 (.list (ns.map .int))=true:=by
 intro ns N Y;have w:∀ns:List Int,(∀n∈ns,n.natAbs<2^64)->Aau (ns.map .int)<=65*ns.length:=by
  intro ns;induction ns with
  |nil=>intro _;simp[Aau]
  |cons a r J=>
   intro Y;have U:=J fun n K=>Y n (.tail _ K);have C:Aiv (.int a)<=64:=by
    unfold Aiv;split
    ·exact Br _ _
    ·rename_i W;have I:a.natAbs≠0:=by
      intro h;apply W;simp;exact Int.natAbs_eq_zero.mp h
     have:=(Agd I).mpr (Y a (.head _));assumption
   simp only[qk,Aau,qi];exact Ag1 U (A3 C)
 have z:∀ns:List Int,Gs (ns.map .int)=true:=by
  intro ns;induction ns with
  |nil=>rfl
  |cons a r J=>simp[Gs,A4p,J]
 have d:∀ns:List Int,Iu (ns.map .int)<=1:=by
  intro ns;induction ns with
  |nil=>simp[Iu]
  |cons a r J=>simp only[qk,Iu,A9c];lia
 have U:=w ns Y;have O:=d ns;unfold A29;simp only[A0,decide_eq_true_eq];refine⟨⟨?_,?_⟩,?_⟩
 ·simpa[A4p] using z ns
 ·simp only[A9c];exact Ab (A3 O) (by decide)
 ·simp only[Aiv];exact Ab (Ab U (Au _ N)) (by decide)
noncomputable def Yq:List MV->Mu->Option (MV×Mu)
 |[x,y],Z=>(E0 Z x).bind fun l=>(Ts l).bind fun ns=>y.i?.bind fun j=>if ns.length<=64/\(ns.all fun n=>decide (n.natAbs<2^64))=true/\j∈ns then some (.p (.int (ns.idxOf j:Nat)),Z) else none
 |_,_=>none
theorem Aix:ON c k (fun vs=>call (.builtin "list.index") vs) Yq:=Al6 (fun _ _ _ e=>Ac4 e) fun S A G g s B Z J V x y v w d Z' Q E P T r Y e X=>Aw e fun l W e=>Aw e fun ns D e=>Aw e fun j N e=>by
 rw[MV.i_i N] at Y;obtain⟨u,rfl⟩:=Y.pl;refine exe2 (T.lst r W) fun a ws z=>?_;obtain⟨rfl,t,q⟩:=z;exact index_list_ints t (W6 D q) (Ahr ns ((Am e).1).1 fun n K=>of_decide_eq_true (Bd.mp ((Am e).1).2.1 n K)) ((Am e).1).2.2 (X.tk T (Am e).2 (.int _ _) _)
noncomputable def Z0 (a b:EM):EM:=fun V Z=>(a V Z).bind fun x=>(Y5 x.1).bind fun t=>if t=true then b V x.2 else some x
theorem Agr {e:Expr}{i:Bbo}{pos:Pos}{a:EM}(M:SE c k S e a):SE c k S (.BoolOp i [e] pos) a:=by
 intro A G g s B Z J V d Z' Q E P T K X;exact BoolOp_one (M A G g s B Z J V d Z' Q E P T K X)
theorem Aay {l m:Expr}{rest:List Expr}{pos:Pos}{a b:EM}(M:SE c k S l a)(Y:SE c k S (.BoolOp .And (m::rest) pos) b):SE c k S (.BoolOp .And (l::m::rest) pos) (Z0 a b):=by
 intro A G g s B Z J V d Z' Q E P T e X;refine Aw e fun z W e=>?_;refine Aw e fun t D e=>?_;refine BoolOp_and (M A G g s B Z J V z.1 z.2 _ E P T W fun u s1z L v K I F=>?_);refine Xl D F fun tk=>?_;have f:=K.trans (I.tk tk);cases t with
 |true=>
  exact Y A G u _ L z.2 J V d Z' Q E P (I.toks tk) e fun gb j q w i H h=>X gb j q w (f.trans i) H h
 |false=>
  replace X:=X.cast e;exact X u _ L v f (I.toks tk) F
noncomputable def MV.t? (x:MV):Option String:=x.p?.bind fun y=>match y with
 | .typ a=>some a
 |_=>none
theorem MV.t_i {x:MV}{a:String}(h:x.t?=some a):x=.p (.typ a):=Aw h fun y W e=>by
 rw[MV.p_i W];cases y with
 |typ b=>exact congrArg (fun a=>MV.p (.typ a)) (Af e)
 |_=>exact A2 e
noncomputable def Apo (x y:MV)(Z:Mu):Option (MV×Mu):=x.t?.bind fun a=>y.t?.bind fun b=>if a="bytes"∧b="bytes" then some (.p (.bool false),Z) else none
theorem Azk:O2 c k (Gu .IsNot) Apo:=fun S A G g s B Z J V x y v w d Z' Q E _ T n H e X=>Aw e fun a W e=>Aw e fun b D e=>by
 rw[MV.t_i W,(Am e).1.1] at n;rw[MV.t_i D,(Am e).1.2] at H;rw[show v=_ from n.pl,show w=_ from H.pl];exact wpAny_isNot_plain rfl (X.sm T (Am e).2 (.bool _))
end
end
section
section
variable {c:Cx}{k:Nat}{S:Sg}{env:Env}{g:Heap}{s:Ad}{B:List Addr}{Z:Mu}{fs:List (Addr×Hd)}{V:Sl}
noncomputable def An1:SM:=fun _ _=>none
theorem Aen {l:List Stmt}:SXs c k S l An1:=by
 intro A G g s B Z J V fl V' Z' Q E P T e X;exact A2 e
theorem Azt {x:Str}{p:Pos}{i:Int}{t:Tok}(R:S.names.lookup x=some .globalImplicit)(z:c.mg x=some (.int i t))(m:(x==("__debug__":Str))=false:=by decide):SE c k S (.Name x p) (kE (.int i)):=by
 intro A G g s B Z J V d Z' Q E P T e X;replace X:=X.cast e;exact Fi (Dp T.kind (by show G.scope.names.lookup x=_;rw[T.sc];exact R) (Lj (T.glob.symm▸T.top.top.g.keeps T.keep) z (X g s B _ (Ev.refl _ _ _) T (.p (.int i t))))) m
theorem FC.mono {a:Nat}{f:Addr}{spec:FM}(h:FC c k f spec)(hk:k<=a):FC c a f spec:=
 fun A g s B Z J C vs r Z' R P F i e Q=>h A g s B Z J C vs r Z' R (P.le hk) F i e Q
noncomputable def Acy (S:Sg)(ps:List Str):Bool:=(Gb ps.length).all fun j=>match ps[j]?,S.vars[j]? with
 |some x,some (y,vk)=>x==y&&vk != .cap
 |_,_=>false
theorem H6 {ps:List Str}(h:Acy S ps=true):∀(j:Nat) (x:Str),ps[j]?=some x->∃vk,S.vars[j]?=some (x,vk)/\vk≠.cap:=fun j x E=>by
 have M:=(Aq.mp E).1;have:=Bd.mp h j (Aiq.mpr M);rw[E] at this;cases e:S.vars[j]? with
 |none=>rw[e] at this;cases this
 |some q=>
  obtain⟨y,vk⟩:=q;rw[e] at this;simp only[A0,beq_iff_eq,bne_iff_ne,ne_eq] at this;exact⟨vk,by rw[this.1],this.2⟩
end
end
section
section
variable {c:Cx}{k:Nat}{S:Sg}
noncomputable def slB (a:EM)(k H:PM):EM:=fun V Z=>(a V Z).bind fun x=>(k V x.2).bind fun y=>(H V y.2).bind fun z=>match x.1 with
 | .p (.bytes b)=>if b.size<=16777216 then some (.p (.bytes (cut y.1 z.1 b.toList).toArray),z.2) else none
 |_=>none
theorem Aem {w:Expr}{l u:Option Expr}{p pos:Pos}{a:EM}{lo H:PM}(M:SE c k S w a)(i:SP c k S l lo)(hu:SP c k S u H):SE c k S (.Subscript w (.Slice l u none p) pos) (slB a lo H):=by
 refine fun A G g s B Z J V d Z' Q E P T e X=>Aw e fun x W e=>Aw e fun zy3 D e=>Aw e fun z n e=>?_;obtain⟨b,Y,e⟩:∃b,x.1=.p (.bytes b)/\(if b.size<=16777216 then some (MV.p (.bytes (cut zy3.1 z.1 b.toList).toArray),z.2) else none)=some (d,Z'):=by
  clear W D n;generalize x.1=q at e;cases q with
  |p q=>cases q with
   |bytes b=>exact⟨b,rfl,e⟩
   |_=>exact A2 e
  |_=>exact A2 e
 refine As2 (M A G g s B Z J V x.1 x.2 _ E P T W fun U s1z L v K I r=>?_);show A1 c.M A (do
  let l<-Km (Uo l G)
  let u<-holding [l] (Km (Uo u G))
  let s<-holding [l,u] (Km (Uo none G))
  newFields "slice" [l,u,s]) _ E s1z
 refine Ag (i A G U s1z L x.2 J V zy3.1 zy3.2 _ E P I D fun gb j o vl h O pl=>?_);refine Ag (Ci (hu A G gb j o zy3.2 J V z.1 z.2 _ E P O n fun gc y B3z vu h3z f pu=>?_));refine Ag (Ci (Al ?_));refine Li ?_;have rc:=r.up (h.up.trans h3z.up) (h.pre.trans h3z.pre);obtain⟨m,R⟩:=f.ns;rw[Y] at rc;obtain⟨t,rfl⟩:=rc.pl;refine KBc.slice_K (fr0 R) Xf rfl pl pu (by simpa[KBw.bInts] using((Am e).1)) (fun h' t' tk F N _=>?_) rfl (Afo w);have TE:=f.evL R (Si F N fun p C=>C) tk;rw[KBc.picked_eq,Aew,Aev];exact X.cast (Am e).2 _ _ _ _ (((K.trans h).trans h3z).trans TE.2) TE.1 (.p (Wz _ _ _ _))
noncomputable def Ahq:Expr->Bool
 | .Starred ..=>true
 |_=>false
theorem T1 {x:Expr}{r:List Expr}(h:Ahq x=false)(env:Env):E7 (x::r) env=(false,eval x env)::E7 r env:=by
 cases x with
 |Starred=>exact nomatch h
 |_=>rfl
theorem Ae {x:Expr}{r:List Expr}{a:EM}{b:LM}(M:SE c k S x a)(Y:SL c k S r b)(h:Ahq x=false):SL c k S (x::r) (Ak a b):=Azv M Y (T1 h)
theorem Bg {C:List Expr}(h:(C.all fun x=> !Ahq x)=true)(G:Env):(E7 C G).any (·.1)=false:=by
 induction C with
 |nil=>rfl
 |cons x r J=>
  rw[Fw,A0,Fn] at h;rw[T1 h.1];exact J h.2
theorem F3 {args:List Expr}(h:(args.all fun x=> !Ahq x)=true)(G:Env):(E7 args G).length=args.length:=by
 induction args with
 |nil=>rfl
 |cons x r J=>
  rw[Fw,A0,Fn] at h;rw[T1 h.1];exact congrArg Ays (J h.2)
noncomputable def Sq:List Nat->TsM
 |[]=>Rl
 |i::r=>Gi (Bc i) (Sq r)
noncomputable def Aus (S:Sg)(l:List (Str×Nat)):Bool:=l.all fun p=>match S.vars[p.2]? with
 |some q=>q.1==p.1&&q.2 != .cap
 |none=>false
theorem Ai0:∀(l:List (Str×Nat)),Aus S l=true->STs c k S ((l.map (·.1)).map fun n=>fun G v=>As7 G n v) (Sq (l.map (·.2)))
 |[],_=>Na
 |(x,i)::r,h=>by
  unfold Aus at h;rw[Fw,A0] at h;obtain⟨U,O⟩:=h;cases e:S.vars[i]? with
  |none=>simp only[e] at U;cases U
  |some q=>
   simp only[e,A0,beq_iff_eq,bne_iff_ne,ne_eq] at U;obtain⟨y,vk⟩:=q;have T:y=x:=U.1;subst T;exact Ex (At8 e U.2) (Ai0 r O)
theorem Ra {elts:List Expr}{kk:Nat}{tpos pos:Pos}{m:Expr}{a:EM}(l:List (Str×Nat))(M:SE c k S m a)(N:Aus S l=true)
  (U:Fo m (some (.Tuple elts kk tpos)) pos.line (O0 S)=pure false)(O:Gd [.Tuple elts kk tpos] m (O0 S)=pure (some (l.map (·.1)).reverse)):
  SX c k S (.Assign [.Tuple elts kk tpos] m pos) (Cp a (swT l.length (Sq (l.map (·.2))))):=by
 have h:=Az0 (names:=(l.map (·.1)).reverse) (tpos:=tpos) (pos:=pos) (kk:=kk) (elts:=elts) M (f:=Sq (l.map (·.2))) (by rw[Atm];exact Ai0 l N) U O;rw[H3,Bn] at h;exact h
end
end
section
section
variable {c:Cx}{k:Nat}{S:Sg}{env:Env}{g:Heap}{s:Ad}{B:List Addr}{Z:Mu}{fs:List (Addr×Hd)}{V:Sl}
theorem Yo {D:M6}(h:∀x∈D.names,x.2=.free->(env.cells.lookup x.1).isSome=true):Bbq D env=pure (Ei env.cells D.names []):=by
 have key:∀(names:List (Str×Eb)) (g:List (Str×Addr)),(∀x∈names,x.2=.free->(env.cells.lookup x.1).isSome=true)->
   (Adl names g fun x r=>if(x.2==.free)=true then do let a<-cellOf env x.1;pure (He ((x.1,a)::r)) else pure (He r))=(pure (Ei env.cells names g):Sem (List (Str×Addr))):=by
  intro names;induction names with
  |nil=>intro g h;rw[Q7];rfl
  |cons x r J=>
   intro g h;obtain⟨n,k⟩:=x;rw[Iw];rw[Mz];by_cases hk:(k==Gp)=true
   ·rw[if_pos hk,if_pos hk];obtain⟨a,M⟩:=Dh.mp (h _ (.head _) (Ew hk));have e:cellOf env n=pure a:=by unfold cellOf;rw[M]
    rw[e,M];exact J _ (fun x R=>h x (.tail _ R))
   ·rw[if_neg hk,if_neg hk];exact J _ (fun x R=>h x (.tail _ R))
 exact(congrArg (fun m=>m >>= fun c=>pure c) (key D.names [] h)).trans rfl
theorem Ame {pos p:Pos}{cv c:Ac}(l:List Ac)(h:Ay7 l)(e:Sy p (l++[Hb pos.line,Hb pos.col,cv])=some c):Sy p l=some c\/c=cv:=by
 fun_induction Ay7 l with
 |case1=>exact .inr (Af (Am e).2).symm
 |case2 a t b u x r J=>
  replace e:(if _ then _ else Sy p (r++_))=_:=e;show(if _ then _ else Sy p r)=_\/_;split at e
  ·rename_i hq;rw[if_pos hq];exact .inl e
  ·rename_i hq;rw[if_neg hq];exact J h e
 |case3=>exact h.elim
theorem Sp.snoc {q:Dx}{ps:Array Ac}{g g':Heap}(x:Sp q ps g)(u:Up g g'){pos:Pos}{c':Addr}(L:g'.CodeRec (.ref c') q.qual):Sp q (ps++ #[Hb pos.line,Hb pos.col,.ref c']) g':=by
 have e:(ps++ #[Hb pos.line,Hb pos.col,.ref c']).toList=ps.toList++[Hb pos.line,Hb pos.col,.ref c']:=by simp
 refine⟨by rw[e];exact TriplesOk_snoc _ _ _ _ x.tri,fun p d h=>?_⟩;rw[e] at h;rcases Ame _ x.tri h with h|rfl
 ·exact⟨(x.rec_ p d h).1,(x.rec_ p d h).2.keeps u⟩
 ·exact⟨⟨c',rfl⟩,L⟩
theorem St.tabStep (T:St c S env g s B Z fs V){q:Dx}(hq:q∈c.tabs){h':Heap}{tk:Nat}(hk:∀b o,b≠q.tab->s.heap.get? b=some o->h'.get? b=some o){ps':Array Ac}(I:h'.get? q.tab=some (Qb ps'))
  (w:∀g',Up g g'->(∀b o,b≠q.tab->s.heap.get? b=none->h'.get? b=some o->g'.get? b=some o)->Sp q ps' g'):
  ∃g',Ev g s B g' {s with heap:=h',toks:=tk} B/\St c S env g' {s with heap:=h',toks:=tk} B Z fs V/\∀b o,b≠q.tab->s.heap.get? b=none->h'.get? b=some o->g'.get? b=some o:=by
 refine Aa fun P=>?_;obtain⟨m,F,y⟩:=T.fst;obtain⟨hP1,ps0,u,Y⟩:=F.tab q hq;refine P ?_
 let g':=sub h' fun b=>(g.get? b).isSome||(s.heap.get? b).isNone
 have notP:∀b o,g.get? b=some o->b≠q.tab:=fun b o e h=>by rw[h,hP1] at e;cases e
 have A:Up g g':=fun b o e=>by
  rw[Cw,if_pos (by simp[e])];exact hk _ _ (notP _ _ e) (F.keep _ _ e)
 have z:∀a o,g.get? a=none->s.heap.get? a=some o->g'.get? a=none:=fun a o U O=>by
  rw[Cw,if_neg (by simp[U,O])]
 have new:∀b o,b≠q.tab->s.heap.get? b=none->h'.get? b=some o->g'.get? b=some o:=fun b o _ U O=>by
  rw[Cw,if_pos (by simp[U])];exact O
 have neP:∀{b:Addr} {o:Obj},s.heap.get? b=some o->(∀vs,o≠Qb vs)->b≠q.tab:=fun h n e=>by
  rw[e,u] at h;exact n _ (Af h).symm
 have N:FSt c g' {s with heap:=h',toks:=tk} B Z ((env.locals,.ns m)::fs):=by
  refine⟨fun b o e=>?_,F.bare,F.len,fun i o a H M=>?_,fun i a H M=>?_,F.nd,fun a M=>?_,fun p I=>?_,F.fnd,F.top.up A,fun p hp'=>?_,F.tnd⟩
  ·rw[Cw] at e;split at e
   ·exact e
   ·exact A2 e
  ·obtain⟨U,O⟩:=F.mu i o a H M;obtain⟨x,R⟩:=O.live;have W:a≠q.tab:=by
    rintro rfl;cases O with
    |lst t r=>rw[show s.heap.get? _=_ from t] at u;cases u
    |wl t r=>obtain⟨K,cc,n,d⟩:=t;rw[u] at K;cases K;cases d
    |dct n q l=>obtain⟨x,X,v,K,cc,d,_⟩:=q;rw[u] at K;cases K;cases d
   exact⟨z a x U R,O.up A fun x e=>hk _ _ W e⟩
  ·obtain⟨o,e⟩:=F.dead i a H M;exact⟨o,A _ _ e⟩
  ·obtain⟨o,e⟩:=F.liv a M;by_cases h:a=q.tab
   ·subst h;exact⟨_,I⟩
   ·exact⟨o,hk _ _ h e⟩
  ·have zx18:=F.fr p I;refine Aa fun f=>?_;obtain⟨o,e,_,n⟩:=zx18.1.get;exact f ⟨zx18.1.at fun k K=>hk _ _ (neP e n) K,z _ o zx18.2.1 e,zx18.2.2⟩
  ·refine Aa fun G=>?_;obtain⟨U,ps,O,C⟩:=F.tab p hp';refine G ?_;by_cases h:p.tab=q.tab
   ·have hpq:p=q:=by
     obtain⟨i,H⟩:=Hf hp';obtain⟨j,E⟩:=Hf hq;have:=Vt F.tnd (i:=i) (j:=j) (a:=q.tab) (by rw[B0,H];simp[h]) (by rw[B0,E];rfl);subst this;rw[H] at E;exact Af E
    subst hpq;exact⟨z _ _ U O,ps',I,w g' A new⟩
   ·exact⟨z _ _ U O,ps,hk _ _ h O,C.up A⟩
 refine⟨g',Ev.same A rfl,?_,new⟩;refine T.frame N A (Bi _) (fun m' h=>?_) fun a D U O=>?_
 ·funext x;exact h.agree (F.fr _ (.head _)).1 x
 ·obtain⟨J,Q,L⟩:=id O;have W:a≠q.tab:=fun e=>by rw[e,u] at Q;cases Q;cases L
  exact⟨z a J U Q,J,hk _ _ W Q,L⟩
theorem St.defn (T:St c S env g s B Z fs V){q:Dx}(hq:q∈c.tabs)(l:env.code=.ref q.code){name:Str}{v:Arguments}{body:List Stmt}{D:M6}{pos:Pos}{A:Bs}{E:Ac->Ad->Prop}{Q:Flow->Ad->Prop}(P:A.handled=none)
  (hqual:qualnameIn env name name=q.qual)(hd0:v.defaults=[])(hk0:v.kw_defaults=[])(M:annTrees v none env=[])
  (hcl:∀x∈D.names,x.2=.free->(env.cells.lookup x.1).isSome=true){i:Nat}{vk:VK}(H:S.vars[i]?=some (name,vk))(hvk:vk≠.cap)
  (h:∀N s' fa c' y pm ctv,Ev g s B N s' B->St c S env N s' B Z fs (V.set i (some (.p (.fn fa))))->N.get? fa=some (Atd name q.qual v body D (Ei env.cells D.names []) y pm c' ctv)->N.CodeRec (.ref c') q.qual->Q .next s'):
  A1 c.M A (exec (.FunctionDef name v body [] none [] D none name pos) env) Q E s:=by
 refine Aa fun W=>?_;obtain⟨m,F,hV⟩:=T.fst;obtain⟨hP1,ps,z,hP3⟩:=F.tab q hq;have Ck:=(F.top.code q hq).keeps F.keep;have hgs:=F.top.top.g.keeps F.keep;refine exe2 F.top.top.bmain fun bm ob zw17=>?_;obtain⟨b1,b2,b3,b4,b5,b6⟩:=zw17;refine W ?_;have hbP:bm≠q.tab:=fun e=>by rw[e,hP1] at b3;cases b3
 have hbG:bm≠Di:=fun e=>by
  refine Aa fun zk13=>?_;obtain⟨o,X,ep,r,hd,_⟩:=F.top.top.g;refine zk13 ?_;rw[e,r] at b3;cases b3;cases hd.symm.trans b6
 have hgP:Di≠q.tab:=fun e=>by
  obtain⟨o,X,ep,r,hd,_⟩:=F.top.top.g;rw[e,hP1] at r;cases r
 have hB:s.heap.BuiltinsAt c.mg q.tab:=exi2 bm ob ⟨b1,b2,hbG,hbP,F.keep _ _ b3,b4,b5,b6⟩;have d:∀{w:Heap} {s1z:Ad} {fa c':Addr} {y pm ctv:Ac},Ev g s B w s1z B->St c S env w s1z B Z fs V->w.get? fa=some (Atd name q.qual v body D (Ei env.cells D.names []) y pm c' ctv)->w.CodeRec (.ref c') q.qual->
   A1 c.M A (Alu env name (.ref fa)) (fun _ s''=>Q .next s'') E s1z:=fun{w s1z fa c' y pm ctv} n I U O=>
  I.store H hvk (.p (.fn fa)) fun j G C=>h w j fa c' y pm ctv (n.trans G) C U O
 refine nestDef_K hd0 hk0 M ?_;rw[hqual];cases a:Sy pos ps.toList with
 |some cv=>
  refine Aa fun zk15=>?_;obtain⟨⟨c',rfl⟩,hrec⟩:=hP3.rec_ pos _ a;refine zk15 ?_;refine makeFunction_hit (mg:=c.mg) (Yo hcl) T.glob hgs l Ck z hP3.tri a hB fun ctv y h' tk hk hsz=>?_;obtain⟨I,k⟩:=T.ev (h':=h'.push (Atd name q.qual v body D (Ei env.cells D.names []) y ((c.mg "__name__").getD .none) c' ctv)) (fun b o e=>E6 _ _ _ _ (hk b o e)) tk;refine d k I (Nv (Hl (h:=s.heap) Up.rfl hsz) (Cy _ rfl)) (hrec.keeps k.up)
 |none=>
  refine makeFunction_K (mg:=c.mg) (Yo hcl) T.glob hgs l Ck z hP3.tri a hgP hB fun c' ctv y h' tk R hge p hrec htb=>?_;have K:s.heap.objs.size<=h'.objs.size:=Ba (Ah hge p);refine Aa fun zk17=>?_;refine exe4 hrec fun c2z J vs t zw33=>?_;obtain⟨L,hoc,hd,f⟩:=zw33;cases L;have hcP:c'≠q.tab:=fun e=>absurd hge (Ry.mpr (e▸D5 z));have hfP:h'.objs.size≠q.tab:=fun e=>absurd K (Ry.mpr (e▸D5 z));obtain⟨w,k,I,na⟩:=T.tabStep (tk:=tk) hq (h':=h'.push (Atd name q.qual v body D (Ei env.cells D.names []) y ((c.mg "__name__").getD .none) c' ctv)) (fun b o Y e=>E6 _ _ _ _ (R b o Y e)) (E6 _ _ _ _ htb)
   (fun N u new=>hP3.snoc u ⟨c',J,vs,t,rfl,new _ _ hcP (Hl (h:=s.heap) Up.rfl hge) (E6 _ _ _ _ hoc),hd,f⟩)
  refine zk17 ?_;exact d k I (na _ _ hfP (Hl (h:=s.heap) Up.rfl K) (Cy _ rfl)) ⟨c',J,vs,t,rfl,na _ _ hcP (Hl (h:=s.heap) Up.rfl hge) (E6 _ _ _ _ hoc),hd,f⟩
end
end
section
section
variable {c:Cx}{k:Nat}{S:Sg}{env:Env}{g:Heap}{s:Ad}{B:List Addr}{Z:Mu}{fs:List (Addr×Hd)}{V:Sl}
noncomputable def capSt (S:Sg)(t:Sl)(g:Heap)(B:List Addr):Prop:=
 t.length=S.vars.length/\∀(i:Nat)(x:Str)(vk:VK),S.vars[i]?=some (x,vk)->match vk with
  | .cap=>∀d,t[i]?=some (some d)->∃a v,S.known.lookup x=some a/\g.IsCell a (some v)/\VR g B d v
  |_=>t[i]?=some none
theorem capSt.up {t:Sl}{N:Heap}{B':List Addr}(x:capSt S t g B)(u:Up g N)(p:B<+:B'):capSt S t N B':=
 ⟨x.1,fun i y vk h=>by
  have q:=x.2 i y vk h;cases vk with
  |cap=>exact fun d hd=>(q d hd).elim fun a k=>k.elim fun v k=>⟨a,v,k.1,k.2.1.keeps u,k.2.2.up u p⟩
  |loc=>exact q
  |own=>exact q⟩
noncomputable def FN (c:Cx)(k:Nat)(S:Sg)(f:Addr)(spec:Sl->FM):Prop:=
 ∀(t:Sl)(A:Bs)(g:Heap)(s:Ad)(B:List Addr)(Z:Mu)(J:List (Addr×Hd))(C:List MV)(vs:List Ac)(r:PV)(Z':Mu)(R:Ic->Ad->Prop),
  AOk A k (J.map kd)->FSt c g s B Z J->capSt S t g B->VRs g B C vs->spec t C Z=some (r,Z')->
  (∀N s' v,Ev g s B N s' B->FSt c N s' B Z' J->PR N r v->R (.ok (.ret v)) s')->I1 c.M A (.call (.ref f) ⟨vs,[]⟩) R s
theorem FN.mono {a:Nat}{f:Addr}{spec:Sl->FM}(h:FN c k S f spec)(hk:k<=a):FN c a S f spec:=
 fun t A g s B Z J C vs r Z' R P F hd i e Q=>h t A g s B Z J C vs r Z' R (P.le hk) F hd i e Q
structure A9d (c:Cx)(f:Addr)(o:Obj)(fd:J8)(S:Sg)(body:List Stmt)(ps:List Str):Prop where
 look:c.K.lookup f=some o
 data:o.data=.func fd
 clos:fd.closure=S.known
 glob:fd.globals=Di
 blt:fd.builtins=F2
 body:fd.body=.stmts body
 code:∀g,c.K.In g->g.CodeRec fd.code fd.qualname
 kind:fd.scope.kind=.function
 gen:fd.scope.isGenerator=false
 cor:fd.scope.isCoroutine=false
 names:fd.scope.names=S.names
 nocell:(S.names.all fun x=>x.2 != .cell)=true
 nodup:(S.vars.map (·.1)).Nodup
 vars:(S.vars.all fun p=>match p.2 with
  | .loc=>S.names.lookup p.1==some .local
  | .own=>false
  | .cap=>S.names.lookup p.1==some .free)=true
 bind:∀vals:List Ac,vals.length=ps.length->A8j fd ⟨vals,[]⟩=pure (ps.zip vals)
 slots:∀(j:Nat) (x:Str),ps[j]?=some x->∃vk,S.vars[j]?=some (x,vk)/\vk≠.cap
theorem Rf:∀(names:List (Str×Eb)) (n:Nat) (g:List (Str×Addr)),(names.all fun x=>x.2 != .cell)=true->G8 n names g=g
 |[],n,g,_=>rfl
 |(x,k)::r,n,g,h=>by
  rw[Fw,A0] at h;unfold G8;rw[if_neg (by simpa using h.1)];exact Rf r n g h.2
theorem Rn:∀(names:List (Str×Eb)) (h:Heap),(names.all fun x=>x.2 != .cell)=true->Jb h names=h
 |[],h,_=>rfl
 |(x,k)::r,h,q=>by
  rw[Fw,A0] at q;unfold Jb;rw[if_neg (by simpa using q.1)];exact Rn r h q.2
noncomputable def Sr (np:Nat)(f:SM)(t:Sl):FM:=fun C Z=>if C.length=np then(A78 f ((C.zipIdx 0).foldl (fun V p=>V.set p.2 (some p.1)) t) Z).bind fun x=>Ave Z.length x.1 x.2 else none
theorem Atr {f:Addr}{o:Obj}{fd:J8}{body:List Stmt}{ps:List Str}{p:SM}(D:A9d c f o fd S body ps)(Y:SXs c k S body p):FN c (k+1) S f (Sr ps.length p):=by
 intro ds A g s B Z J C vs r Z' R l F u m e Q;have N:=(Am e).1;refine Aw (Am e).2 fun x W L=>?_;have I:(fd.scope.names.all fun x=>x.2 != .cell)=true:=D.names▸D.nocell;refine Zf (Ah (Bl _ _) l.depth) (F.keep _ _ (F.top.k _ _ D.look)) D.data D.cor D.gen D.body ((D.code g F.top.k).keeps F.keep) ?_;rw[D.bind vs (m.length▸N),D.clos,D.glob,D.blt];refine Al (Aal ?_);rw[Rf _ _ _ I,Rn _ _ I];have H:Up s.heap (s.heap.push {cls:=.type "frame",data:=.dict #[]}):=fun b o e=>E6 _ _ b o e
 have T:St c S (Z7 fd.scope s.heap.objs.size Di S.known (fd.qualname++".<locals>.") (some f) fd.code none F2) g {s with heap:=s.heap.push {cls:=.type "frame",data:=.dict #[]}} B Z J ds:=by
  have E:(s.heap.push {cls:=.type "frame",data:=.dict #[]}).Ns s.heap.objs.size fun _=>none:=Aog s.heap (.type "frame")
  obtain⟨K,t⟩:=F.old (a:=s.heap.objs.size) (At _);have M:=(F.stay (s':={s with heap:=s.heap.push {cls:=.type "frame",data:=.dict #[]}}) H F.bare).add (q:=.ns fun _=>none) (a:=s.heap.objs.size) E (Hl F.keep (At _)) K t
  have n:∀(i:Nat) (x:Str) (vk:VK),S.vars[i]?=some (x,vk)->_:=fun i x vk h=>Bd.mp D.vars _ (Bo h);refine⟨D.kind,rfl,rfl,D.names,⟨fun _=>none,M,fun i x d U O=>?_⟩,fun i x h=>?_,fun i x h=>?_,fun i j x y a U O w G=>?_,fun i x d U O=>?_,D.nodup,u.1,fun x a h=>h⟩
  ·have:=u.2 i x .loc U;dsimp only at this;exact nomatch this.symm.trans O
  ·show fd.scope.names.lookup x=_;rw[D.names];simpa using n i x .loc h
  ·have:=n i x .own h;simp at this
  ·have:=n i x .own U;simp at this
  ·refine exe2 (u.2 i x .cap U d O) fun a v z=>?_;refine⟨.inr ?_,a,v,z.1,z.2.1,z.2.2⟩;show fd.scope.names.lookup x=_;rw[D.names];simpa using n i x .cap U
 exact Anr l F H T m N D.slots D.kind (Y.toE (P:=fun _=>True)) trivial W L Q
noncomputable def Yk (S:Sg)(V:Sl):Sl:=(S.vars.zip V).map fun p=>if p.1.2=.cap then p.2 else none
theorem Abj {i:Nat}{x:Str}{vk:VK}(h:S.vars[i]?=some (x,vk))(N:V.length=S.vars.length):(Yk S V)[i]?=if vk=.cap then V[i]? else some none:=by
 unfold Yk;have H:=(Aq.mp h).1;have l:V[i]?=some (V[i]'(by omega)):=Bx (by omega);rw[B0,show(S.vars.zip V)[i]?=some ((x,vk),V[i]'(by omega)) from by rw[Alq];exact⟨h,l⟩];by_cases F:vk=.cap
 ·simp[F,l]
 ·simp[F]
noncomputable def Abi (S:Sg)(i:Nat)(fa:Addr)(t:LM)(spec:Sl->FM):EM:=fun V Z=>(at? V i).bind fun m=>m.f?.bind fun a=>if a=fa then(t V Z).bind fun y=>(spec (Yk S V) y.1 y.2).map fun r=>(.p r.1,r.2) else none
theorem St.capSt (T:St c S env g s B Z fs V)(H:∀(i:Nat)(x:Str),S.vars[i]?=some (x,.cap)->∃a,S.known.lookup x=some a)(o:∀(i:Nat)(x:Str),S.vars[i]?≠some (x,.own)):Mine.capSt S (Yk S V) g B:=by
 refine⟨by unfold Yk;rw[Bn,List.length_zip,T.len,Nat.min_self],fun i x vk h=>?_⟩;cases vk with
 |cap=>
  intro d hd;rw[(Abj (V:=V) h T.len)] at hd;refine Aa fun n=>?_;obtain⟨_,a,v,z⟩:=T.cap i x d h hd;have U:=z.1;obtain⟨a',f⟩:=H i x h;refine n ?_;have:=T.known x a' f;rw[U] at this;cases this;exact exi2 a v ⟨f,z.2.1,z.2.2⟩
 |loc=>exact(Abj (V:=V) h T.len)
 |own=>exact absurd h (o i x)
theorem Wh {x:Str}{p pos:Pos}{C:List Expr}{i:Nat}{vk:VK}{fa:Addr}{o:Obj}{fd:J8}{h:LM}{spec:Sl->FM}(f:S.vars[i]?=some (x,vk))(N:SL c k S C h)(u:FN c k S fa spec)
  (y:c.K.lookup fa=some o)(hd:o.data=.func fd)(H:∀(i:Nat)(x:Str),S.vars[i]?=some (x,.cap)->∃a,S.known.lookup x=some a)(hno:∀(i:Nat)(x:Str),S.vars[i]?≠some (x,.own))
  (l:∀G,(E7 C G).any (·.1)=false)(U:(x==("__debug__":Str))=false)(O:(x==("__classdict__":Str))=false):SE c k S (.Call (.Name x p) C [] pos) (Abi S i fa h spec):=by
 intro A G g s B Z J V d Z' Q E P T e X;refine Aw e fun m em D=>Aw D fun a ea t=>?_;clear e D;rw[MV.f_i ea] at em
 ·have q:=A0g em;have M:=(Am t).1;have e:=(Am t).2;clear t;refine Aa fun z=>?_;subst M;refine Aw e fun zy8 W e=>?_;refine E4 e fun zy10 D e=>?_;cases e;refine z ?_;refine A8i ?_;refine Agt (k:=k) (c:=c) f U O A G g s B Z J V (.p (.fn a)) Z _ E P T (by unfold vE;simp[q]) fun gz s0 B0z fv h0z T0z rz=>?_;obtain rfl:=rz.pl;refine Aim (o:=o) (fd:=fd) (Dr (by rw[Fb];exact l G) ?_);refine N pos A G gz s0 B0z Z J V zy8.1 zy8.2 _ E P T0z W fun w s1z L vs K I r=>⟨⟨I.keep _ _ (I.top.k _ _ y),hd⟩,?_⟩;obtain⟨m,zz5⟩:=I.ns';have F:=zz5.2;refine Aee (u _ A _ s1z L zy8.2 ((G.locals,.ns m)::J) zy8.1 vs zy10.1 zy10.2 _ P F.call ((I.capSt H hno).up (Ih F.keep (Hh c L ((G.locals,.ns m)::J))) (Bi _)) (r.up (Ih F.keep (Hh c L ((G.locals,.ns m)::J))) (Bi _)) D fun gb s' v n Y j=>?_);obtain⟨b,R⟩:=I.called zz5.1 n Y;exact X b s' L v ((h0z.trans K).trans R.1) R.2.1 (.p (j.ups (Ac6 R.2.2)))
end
end
section
section
variable {c:Cx}{k:Nat}{S:Sg}{env:Env}{g:Heap}{s:Ad}{B:List Addr}{Z:Mu}{fs:List (Addr×Hd)}{V:Sl}
noncomputable def Aai (S S':Sg)(caps:List (Option Nat)):Prop:=
 S'.vars.length=caps.length/\∀(i:Nat)(x:Str)(vk:VK),S'.vars[i]?=some (x,vk)->match vk with
  | .cap=>(∃j,caps[i]?=some (some j)/\S.vars[j]?=some (x,.own))/\∃a,S.known.lookup x=some a
  |_=>caps[i]?=some none
theorem St.capOwn (T:St c S env g s B Z fs V){m:Str->Option Ac}(z:s.heap.Ns env.locals m){S':Sg}{caps:List (Option Nat)}(L:Aai S S' caps)(hk:S'.known=S.known):
  Mine.capSt S' (Pi caps V) (Qe g s (Hh c B ((env.locals,.ns m)::fs))) B:=by
 refine⟨by unfold Pi;rw[Bn];exact L.1.symm,fun i x vk h=>?_⟩;have q:=L.2 i x vk h;have p:∀X,caps[i]?=some X->(Pi caps V)[i]?=some (match X with|none=>none|some j=>(V[j]?).join):=fun X h=>by
  unfold Pi;rw[B0,h];cases X<;>rfl
 cases vk with
 |loc=>exact p _ q
 |own=>exact p _ q
 |cap=>
  refine Aa fun y=>?_;obtain⟨⟨j,q1,q2⟩,a',q3⟩:=q;refine y ?_;intro d hd;rw[p _ q1] at hd;have f:(V[j]?).join=some d:=Af hd;have K:V[j]?=some (some d):=by
   cases e:V[j]? with
   |none=>rw[e] at f;cases f
   |some o=>rw[e] at f;have W:o=some d:=f;rw[W]
  refine Aa fun w=>?_;obtain⟨_,a,D,u,l,⟨J,Q,E⟩,H⟩:=T.own j x q2;obtain⟨v,k⟩:=H d K;obtain rfl:=k.1;have N:=k.2;refine w ?_;have:=T.known x a' q3;rw[u] at this;refine Aa fun n=>?_;cases this;obtain⟨m',b⟩:=T.fst;refine n ?_;refine exi2 a' v ⟨by rw[hk];exact q3,⟨J,Wt (T.own_notW z a' (Xe q2 u)) Q,E⟩,N.up (Ih b.1.keep _) (Bi _)⟩
noncomputable def Ajc (caps:List (Option Nat))(i:Nat)(fa:Addr)(t:LM)(spec:Sl->FM):EM:=fun V Z=>(at? V i).bind fun m=>m.f?.bind fun a=>if a=fa then(t V Z).bind fun y=>(spec (Pi caps V) y.1 y.2).map fun r=>(.p r.1,r.2) else none
theorem Aiz {x:Str}{p pos:Pos}{C:List Expr}{i:Nat}{vk:VK}{fa:Addr}{o:Obj}{fd:J8}{h:LM}{S':Sg}{spec:Sl->FM}{caps:List (Option Nat)}(f:S.vars[i]?=some (x,vk))(N:SL c k S C h)(u:FN c k S' fa spec)
  (y:c.K.lookup fa=some o)(hd:o.data=.func fd)(L:Aai S S' caps)(hk:S'.known=S.known)
  (l:∀G,(E7 C G).any (·.1)=false)(U:(x==("__debug__":Str))=false)(O:(x==("__classdict__":Str))=false):SE c k S (.Call (.Name x p) C [] pos) (Ajc caps i fa h spec):=by
 intro A G g s B Z J V d Z' Q E P T e X;refine Aw e fun m em D=>Aw D fun a ea t=>?_;clear e D;rw[MV.f_i ea] at em
 ·have H:=A0g em;have M:=(Am t).1;have e:=(Am t).2;clear t;refine Aa fun q=>?_;subst M;refine Aw e fun zy16 W e=>?_;refine E4 e fun zy18 D e=>?_;cases e;refine q ?_;refine A8i ?_;refine Agt (k:=k) (c:=c) f U O A G g s B Z J V (.p (.fn a)) Z _ E P T (by unfold vE;simp[H]) fun gz s0 B0z fv h0z T0z rz=>?_;obtain rfl:=rz.pl;refine Aim (o:=o) (fd:=fd) (Dr (by rw[Fb];exact l G) ?_);refine N pos A G gz s0 B0z Z J V zy16.1 zy16.2 _ E P T0z W fun w s1z R vs K I r=>⟨⟨I.keep _ _ (I.top.k _ _ y),hd⟩,?_⟩;obtain⟨m,zz20⟩:=I.ns';have z:=zz20.1;have F:=zz20.2;refine Aee (u _ A _ s1z R zy16.2 ((G.locals,.ns m)::J) zy16.1 vs zy18.1 zy18.2 _ P F.call (I.capOwn z L hk) (r.up (Ih F.keep (Hh c R ((G.locals,.ns m)::J))) (Bi _)) D fun gb s' v n Y j=>?_);obtain⟨b,zz17⟩:=I.called z n Y;exact X b s' R v ((h0z.trans K).trans zz17.1) zz17.2.1 (.p (j.ups (Ac6 zz17.2.2)))
theorem FSt.recast {c':Cx}(F:FSt c g s B Z fs)(d:c'.tabs=c.tabs)(t:Wj c' g):FSt c' g s B Z fs:=
 ⟨F.keep,F.bare,F.len,F.mu,F.dead,F.nd,F.liv,F.fr,F.fnd,t,by rw[d];exact F.tab,by rw[d];exact F.tnd⟩
theorem St.recast {c':Cx}{S':Sg}(T:St c S env g s B Z fs V)(d:c'.tabs=c.tabs)(t:Wj c' g)(U:S'.names=S.names)(O:S'.vars=S.vars)(hk:∀x a,S'.known.lookup x=some a->env.cells.lookup x=some a):St c' S' env g s B Z fs V:=by
 obtain⟨m,F,P⟩:=T.fst;exact⟨T.kind,T.glob,T.blt,by rw[U];exact T.sc,⟨m,F.recast d t,by rw[O];exact P⟩,by rw[O];exact T.loc,by rw[O];exact T.own,by rw[O];exact T.inj,by rw[O];exact T.cap,by rw[O];exact T.names,by rw[O];exact T.len,hk⟩
noncomputable def Cx.within (c:Cx)(fa:Addr)(o:Obj)(d:Addr)(J:Obj):Cx:={c with K:=(fa,o)::(d,J)::c.K}
noncomputable def Adw (i:Nat)(fr:Addr->SM)(fa:Addr):SM:=fun V Z=>fr fa (V.set i (some (.p (.fn fa)))) Z
theorem Aok {q:Dx}(hq:q∈c.tabs){name:Str}{v:Arguments}{ibody rest:List Stmt}{L:M6}{pos:Pos}{fdc:Ac}{qn:Str}{i:Nat}{vk:VK}{fr:Addr->SM}{f:SF}(hcode:fdc=.ref q.code)
  (hqual:qn++".<locals>."++name=q.qual)(hkn:(S.names.lookup name==some .globalExplicit)=false)(hd0:v.defaults=[])(hk0:v.kw_defaults=[])(M:∀G,annTrees v none G=[])
  (H:S.vars[i]?=some (name,vk))(hvk:vk≠.cap)(hcl:∀x∈L.names,x.2=.free->∃j:Nat,S.vars[j]?=some (x.1,VK.own))(hS:S.known=[])
  (hrest:∀(fa ca:Addr)(oc:Obj)(doc pm ctv:Ac)(cl:List (Str×Addr))(vs:Array Ac)(t:Tok),ca≠fa->oc.data=.fields vs->vs[1]?=some (.str q.qual t)->(∀x∈L.names,x.2=.free->∃a,cl.lookup x.1=some a)->
   SXs (c.within fa (Atd name q.qual v ibody L cl doc pm ca ctv) ca oc) k {S with known:=cl} rest (fr fa))
  (u:∀fa V Z fl Z',f V Z=some (fl,Z')->∃V',Adw i fr fa V Z=some (fl,V',Z')):
  SXE c k S (fun G=>G.code=fdc∧G.qual=qn++".<locals>.") (execs (.FunctionDef name v ibody [] none [] L none name pos::rest)) f:=by
 intro A G g s B Z J V fl Z' Q E hP P T e X;have hcells:∀x∈L.names,x.2=.free->(G.cells.lookup x.1).isSome=true:=fun x R u=>by
  refine Aa fun zk11=>?_;obtain⟨j,D⟩:=hcl x R u;obtain⟨_,a,_,zz13⟩:=T.own j x.1 D;refine zk11 ?_;rw[zz13.1];rfl
 refine Ag (T.defn hq (hP.1.trans hcode) P.1.hh ?_ hd0 hk0 (M G) hcells H hvk fun ga s1z fa ca doc pm ctv ev1 I hfa hca=>?_)
 ·unfold qualnameIn;rw[if_neg (by show ¬(G.scope.names.lookup name==some .globalExplicit)=true;rw[T.sc,hkn];simp),hP.2];exact hqual
 ·refine Aa fun zk12=>?_;refine exe4 hca fun ca' oc vs t zw14=>?_;obtain⟨W,hoc,hd,F⟩:=zw14;cases W;have hcl':∀x∈L.names,x.2=.free->∃a,(Ei G.cells L.names []).lookup x.1=some a:=fun x R u=>by
   obtain⟨a,M⟩:=Dh.mp (hcells x R u);obtain⟨n,kd⟩:=x;dsimp only at u;subst u;exact⟨a,Zi _ R M⟩
  have m:ca≠fa:=fun q=>by rw[q,hfa] at hoc;cases hoc;cases hd
  have top:Wj (c.within fa (Atd name q.qual v ibody L (Ei G.cells L.names []) doc pm ca ctv) ca oc) ga:=by
   refine⟨fun a o N=>?_,I.top.top,I.top.code⟩;have N:((fa,_)::(ca,oc)::c.K).lookup a=some o:=N;rw[Ff] at N;cases q:a==fa with
   |true=>rw[q] at N;cases N;rw[Ew q];exact hfa
   |false=>
    rw[q] at N;rw[Ff] at N;cases q2:a==ca with
    |true=>rw[q2] at N;cases N;rw[Ew q2];exact hoc
    |false=>rw[q2] at N;exact I.top.k _ _ N
  have C:=I.recast (c':=c.within fa (Atd name q.qual v ibody L (Ei G.cells L.names []) doc pm ca ctv) ca oc) (S':={S with known:=Ei G.cells L.names []}) rfl top rfl rfl (fun x a R=>by
   have:=Wv L.names [] (fun _ _ h=>by cases h) x a (mem_of_lookup R);have hmem:∃kd,(x,kd)∈L.names/\kd=Gp:=by
    have key:∀(names:List (Str×Eb)) (acc:List (Str×Addr)),(x,a)∈Ei G.cells names acc->(x,Gp)∈names\/(x,a)∈acc:=by
     intro names;induction names with
     |nil=>intro acc h;exact .inr h
     |cons p r O=>
      obtain⟨y,kd⟩:=p;intro acc h;rw[Mz] at h;split at h
      ·rename_i hk;rcases O _ h with h|h
       ·exact .inl (.tail _ h)
       ·rcases Av.mp h with h|h
        ·cases h;rw[Ew hk];exact .inl (.head _)
        ·exact .inr h
      ·rcases O _ h with h|h
       ·exact .inl (.tail _ h)
       ·exact .inr h
    rcases key _ _ (mem_of_lookup R) with h|h
    ·exact⟨_,h,rfl⟩
    ·cases h
   refine Aa fun zk15=>?_;obtain⟨kd,z,rfl⟩:=hmem;obtain⟨b,Y⟩:=Dh.mp (hcells _ z rfl);refine zk15 ?_;rw[Y] at this |-
   rw[this];rfl)
  obtain⟨V',K⟩:=u fa V Z _ _ e;refine zk12 ?_;refine hrest fa ca oc doc pm ctv _ vs t m hd F hcl' A G ga s1z B Z J _ fl V' Z' Q E P C K fun gb d l w ev2 U rc=>?_;refine X gb d l V' w (ev1.trans ev2) (U.recast rfl (I.top.up ev2.up) rfl rfl (fun x a R=>by rw[hS] at R;cases R)) rc
noncomputable def Ba2 (f:SM)(q:SF):SF:=fun V Z=>(f V Z).bind fun x=>match x.1 with
 | .next=>q x.2.1 x.2.2
 |fl=>some (fl,x.2.2)
theorem Aua {P:Env->Prop}{x:Stmt}{r:List Stmt}{f:SM}{q:SF}(U:SX c k S x f)(O:SXE c k S P (execs r) q):SXE c k S P (execs (x::r)) (Ba2 f q):=by
 intro A G g s B Z J V fl Z' Q E n l T e X;refine Aw e fun y W e=>?_;refine Ag (U A G g s B Z J V y.1 y.2.1 y.2.2 _ E l T W fun u s1z L w K I F=>?_);generalize y.1=z at e F;have d:∀{b:Fl} {w:Flow},some (b,y.2.2)=some (fl,Z')->FlR u L b w->Q w s1z:=fun e r=>have q:=Prod.mk.inj (Af e);X u s1z L y.2.1 _ K (q.2▸I) (q.1▸r);cases F with
 |next=>exact O A G u s1z L y.2.2 J y.2.1 fl Z' Q E n l I e fun gb j o a m i H h=>X gb j o a m (K.trans i) H h
 |brk=>exact Al (d e .brk)
 |cont=>exact Al (d e .cont)
 |ret r=>exact Al (d e (.ret r))
theorem Ja {fa d:Addr}{o J:Obj}:(c.within fa o d J).K.lookup fa=some o:=by
 show((fa,o)::(d,J)::c.K).lookup fa=_;rw[Ff,beq_self_eq_true]
theorem Zt {fa d:Addr}{o J:Obj}(W:d≠fa){vs:Array Ac}{t:Tok}{qn:Str}(hd:J.data=.fields vs)(F:vs[1]?=some (.str qn t)):∀g,(c.within fa o d J).K.In g->g.CodeRec (.ref d) qn:=fun g h=>by
 refine exi4 d J vs t ⟨rfl,h d J ?_,hd,F⟩;show((fa,o)::(d,J)::c.K).lookup d=_;rw[Ff,show(d==fa)=false from by simpa using W,Ff,beq_self_eq_true]
theorem Aoh {f:Addr}:FN c k S f (fun _ _ _=>none):=by
 intro t A g s B Z J C vs r Z' R P F hd i e;exact A2 e
theorem Af0 {c:Cx}{S iS:Sg}{rest:List Stmt}{f:SM}{fa:Addr}{spec:Nat->Sl->FM}(s:∀n,FN c (n+3) iS fa (spec n))(h:(∀n,FN c (n+3) iS fa (spec n))->SXs c k S rest f):SXs c k S rest f:=h s
end
end
section
section
variable {c:Cx}{k:Nat}{S:Sg}
noncomputable def tL (a:EM):BM:=fun V Z=>(a V Z).bind fun x=>(E0 x.2 x.1).bind fun l=>if l.length<=16777216 then some (!l.isEmpty,x.2) else none
theorem A44 {e:Expr}{a:EM}(M:SE c k S e a)(p:∀G w,isTrue e G w=(do let v<-w;Aik e.pos;holding [v] (truthy v))):SB c k S e (tL a):=by
 intro A G g s B Z J V d Z' Q E P T e h;unfold tL at e;refine Aa fun C=>?_;refine Aw e fun z W e=>?_;refine Aw e fun l D e=>?_;have hz:=(Am e).1;replace e:=(Am e).2;cases e;refine C ?_;refine Bbt (M A G g s B Z J V z.1 z.2 _ E P T W fun u s1z L v K I F=>?_) (p G _);refine exe2 (I.lst F D) fun a vs f=>?_;obtain⟨rfl,t,q⟩:=f;refine wpAny_truthy_list t (by rw[D4,q.length];exact Im (Amh hz) (by decide)) ?_;have:(!vs.toArray.isEmpty)= !l.isEmpty:=by
  have:=q.length;cases l<;>cases vs<;>simp_all
 rw[this];exact h u _ L (K.trans (I.tk _)) (I.toks _)
end
end
section
set_option autoImplicit true
open PySem.F
theorem Pv:Bbp "re.Pattern":=
 ⟨⟨"object.__getattribute__",by rw[Jc,Gc];kernel_rfl,by decide+kernel⟩,by rw[Jc,Gc];kernel_rfl⟩
theorem Tz:Slot "re.Pattern" "split" "re.Pattern.split":=
 .of (owner:="re.Pattern") (n:="split") (by rw[Jc,Gc];kernel_rfl) (by decide+kernel) (by decide+kernel) (by decide+kernel)
  (by first|exact .inl (by decide+kernel)|exact .inr (by decide+kernel)) (by rw[J9];kernel_rfl)
theorem Ac5:Bbr (.builtin "re.Pattern.split")=pure (.type "method_descriptor"):=by show builtinType _=_;rw[A89];kernel_rfl
theorem Z2:V8 table "re.Pattern.split"=some Builtin.«re.Pattern.split»:=P9 (by kernel_rfl)
theorem Sc:Slot "re.Pattern" "sub" "re.Pattern.sub":=
 .of (owner:="re.Pattern") (n:="sub") (by rw[Jc,Gc];kernel_rfl) (by decide+kernel) (by decide+kernel) (by decide+kernel)
  (by first|exact .inl (by decide+kernel)|exact .inr (by decide+kernel)) (by rw[J9];kernel_rfl)
theorem Xo:Bbr (.builtin "re.Pattern.sub")=pure (.type "method_descriptor"):=by show builtinType _=_;rw[A89];kernel_rfl
theorem Adz:V8 table "re.Pattern.sub"=some Builtin.«re.Pattern.sub»:=P9 (by kernel_rfl)
theorem Qg:V8 table "re.Pattern.sub.loop"=some Builtin.«re.Pattern.sub.loop»:=P9 (by kernel_rfl)
theorem Afw:Ayy.lookup (A8t (A8u "re.Pattern").reverse.reverse)=some Manifest.sig_re_Pattern:=by kernel_rfl
theorem Abd (a b:Ac):Aeb "re.Pattern.split" ⟨[a,b],[]⟩:=by
 unfold Aeb;rw[Ado (id:="re.Pattern.split") (n:=("split".toList).reverse) (o:=("re.Pattern".toList).reverse) (by kernel_rfl) Afw];kernel_rfl
theorem Ag3 (a b c:Ac):Aeb "re.Pattern.sub" ⟨[a,b,c],[]⟩:=by
 unfold Aeb;rw[Ado (id:="re.Pattern.sub") (n:=("sub".toList).reverse) (o:=("re.Pattern".toList).reverse) (by kernel_rfl) Afw];kernel_rfl
theorem U5:plainId "re.Pattern.sub.loop"=true:=by decide+kernel
end
section
set_option autoImplicit true
open PySem.Builtin.Re
theorem Axe (m:Zy):m.runFor 0=m:=rfl
theorem Axd (m:Zy)(n:Nat):m.runFor (n+1)=if m.outcome.isSome then m else m.step.runFor n:=rfl
theorem Ah0 (m:Zy):∀n,m.runFor n=if m.outcome.isSome then m else(N2 n m):=by
 intro n;induction n generalizing m with
 |zero=>rw[Axe];rw[Aqe];split<;>rfl
 |succ n J=>
  rw[Axd];split
  ·rfl
  ·rw[J];split
   ·rename_i U O;have:∀k (m:Zy),m.outcome.isSome=true->N2 k m=m:=by
     intro k;induction k with
     |zero=>intro m _;rfl
     |succ k i=>intro m h;rw[Aqd];rw[show m.step=m from by unfold Sre.M.step;rw[if_pos h]];exact i m h
    exact(this n _ O).symm
   ·rfl
theorem Se {m:Zy}(h:m.outcome.isSome=true)(k:Nat):N2 k m=m:=by
 induction k with
 |zero=>rfl
 |succ k i=>rw[Aqd];rw[show m.step=m from by unfold Sre.M.step;rw[if_pos h]];exact i
theorem Ar8 (m:Zy)(n:Nat):m.runFor n=N2 n m:=by
 rw[Ah0];split
 ·rename_i h;exact(Se h n).symm
 ·rfl
section
variable {M:Mg}{A:Bs}{E:Ac->Ad->Prop}{s:Ad}
theorem Alm {Q:Zy->Ad->Prop}:∀(a k:Nat) (m m':Zy),N2 k m=m'->m'.outcome.isSome=true->k<=4*a->0<a->Q m' s->A1 M A (reDrive a m) Q E s
 |0,k,m,m',_,_,_,h,_=>absurd h (by decide)
 |t+1,k,m,m',e,y,hk,_,X=>by
  show A1 M A (if(m.runFor 4).outcome.isSome=true then pure (m.runFor 4) else do rule "sre.turn";reDrive t (m.runFor 4)) Q E s;rw[Ar8];by_cases h:(N2 4 m).outcome.isSome=true
  ·rw[if_pos h];refine Al ?_;have:N2 4 m=m':=by
    by_cases b:k<=4
    ·rw[<-C8 b,Rt,e,Se y]
    ·rw[A0e (Nat.le_of_not_le b),Rt,Se h] at e;exact e
   rw[this];exact X
  ·rw[if_neg h];refine Ag (S7 ?_);have b:4<k:=by
    refine Jl fun b=>h ?_;rw[<-C8 b,Rt,e,Se y];exact y
   exact Alm t (k-4) _ m' (by rw[<-Rt,show 4+(k-4)=k from(C8 (Ba b))];exact e) y (P3 hk) (Ha fun q=>absurd hk (Aea (q▸b))) X
theorem Alo {u:Type}{Q:PUnit->Ad->Prop}{f:u->PUnit->Sem (ForInStep PUnit)}(O:∀a (Q:ForInStep PUnit->Ad->Prop),Q (.yield ⟨⟩) s->A1 M A (f a ⟨⟩) Q E s):∀(l:List u),Q ⟨⟩ s->A1 M A (Adl l ⟨⟩ f) Q E s
 |[],h=>by rw[Q7];exact Al h
 |x::l,h=>by
  rw[Iw];exact Ag (O x _ (Alo O l h))
theorem wp_run {m m':Zy}{b:Nat}{Q:Option Zy->Ad->Prop}(j:Rb b m m')(Y:b<=2^64){r:Option (Nat×Nat)}(O:M8 m' r)
  (h:Q (match r with|some _=>some m'|none=>none) s):A1 M A (reRunToEnd m) Q E s:=by
 obtain⟨k,hk,e⟩:=j;have y:m'.outcome.isSome=true:=by
  cases r with
  |none=>rw[show m'.outcome=_ from O];rfl
  |some p=>rw[O.1];rfl
 refine Ag (Alm (2^64) k m m' e y (Ab (Ab hk Y) (by decide)) (by decide) ?_);refine Ag (Alo (fun a Q h=>?_) _ ?_)
 ·split
  ·exact Ag (S7 (Al h))
  ·exact Al h
 ·cases r with
  |none=>rw[show m'.outcome=_ from O];exact Al h
  |some p=>rw[O.1];exact Al h
end
inductive Pd (h:Heap)(a:Addr)(code:Array Nat)(groups:Nat):Prop
 |mk (o:Obj)(fs:Array Ac)(ta:Addr)(to:Obj)(n:Nat)(g2 g6:Int)(ts:Tok)(h1:h.get? a=some o)(h2:o.cls=.type "re.Pattern")(h3:o.dict=none)(h4:o.data=.fields fs)(h5:fs.getD 2 .none=.int g2 ts)(h6:g2.toNat=groups)(h7:fs.getD 5 .none=.ref ta)
  (h8:h.get? ta=some to)(h9:to.cls=.type "tuple")(h10:to.data=.seq (code.map fun(w:Nat)=>Hb w) n)(h11:fs.getD 6 .none=.int g6 ts)(h12:g6.toNat=0)
theorem Pd.but {h h':Heap}{a L:Addr}{code:Array Nat}{groups:Nat}{items:Array Ac}{n:Nat}(x:Pd h a code groups)(E:IsL h L items n)(u:∀b o,b≠L->h.get? b=some o->h'.get? b=some o):Pd h' a code groups:=by
 refine x.rec fun o J g j n B i m U O C G R r K W c D z N=>?_;refine⟨o,J,g,j,n,B,i,m,u _ _ (fun e=>?_) U,O,C,G,R,r,K,u _ _ (fun e=>?_) W,c,D,z,N⟩
 ·subst e;rw[show h.get? a=some _ from E] at U;cases U;injection O with e;exact absurd e (by decide)
 ·subst e;rw[show h.get? g=some _ from E] at W;cases W;injection c with e;exact absurd e (by decide)
theorem Pd.up {h h':Heap}{a:Addr}{code:Array Nat}{groups:Nat}(x:Pd h a code groups)(u:Up h h'):Pd h' a code groups:=
 x.rec fun o J g j n B i m U O C G R r K W d D z N=>⟨o,J,g,j,n,B,i,m,u _ _ U,O,C,G,R,r,K,u _ _ W,d,D,z,N⟩
section
variable {M:Mg}{A:Bs}{E:Ac->Ad->Prop}{s:Ad}
theorem Ar5 (code:Array Nat):((code.map fun(w:Nat)=>Hb w).map reRawOf).map (·.toNat)=code:=by
 rw[A8v,A8v];conv=>rhs;rw[<-Array.map_id code]
 rfl
theorem Za {a:Addr}{code:Array Nat}{groups:Nat}{x:Str}{t:Tok}{Q:ReTarget->Ad->Prop}(I:Pd s.heap a code groups)
  (h:Q {pattern:=.ref a,string:=.str x t,code,text:=x.cps,kind:=0,groups,pos:=0,lim:=x.cps.size} s):A1 M A (reWholeTarget (.ref a) (.str x t)) Q E s:=by
 refine I.rec fun o J g j n B i m U O C G R r K W _ e c f=>?_;refine Ag ?_;refine Ag (Xz U ?_);rw[G];refine Al ?_;refine Ag (Ag (Al (Al ?_)));simp only[R,K,c,reRawNat,r,f];refine Ag (show A1 M A (reNoCollectionInside (.str x t) 0) _ E s from Al ?_);refine Ag (Ag (Ag (Xz W ?_)));rw[e];refine Al (Al (Al ?_));show Q {pattern:=.ref a,string:=.str x t,code:=((code.map fun(w:Nat)=>Hb w).map reRawOf).map (·.toNat),text:=x.cps,kind:=0,groups,pos:=0,lim:=x.cps.size} s;rw[Ar5];exact h
theorem Ayd {a:Addr}{x:Str}{t:Tok}{st:Nat}{Q:Option Zy->Ad->Prop}(hz:x.cps.size<=16777216)(l:st<=x.cps.size)
  (h:∀r Z,Pb (q1 x.cps) st x.cps.size r->(match r,Z with|none,none=>True|some (a,b),some m=>Agh m a b|_,_=>False)->Q Z s):
  A1 M A (reNextFound {pattern:=.ref a,string:=.str x t,code:=C1,text:=x.cps,kind:=0,groups:=1,pos:=0,lim:=x.cps.size} st false) Q E s:=by
 refine Aa fun y=>?_;refine exe2 (Bcd x.cps hz st l) fun r m' z=>?_;obtain⟨U,O,C,G⟩:=z;refine y ?_;refine wp_run U (Ab (Au _ (Bp hz _)) (by decide)) C (h r _ O ?_);cases r with
 |none=>trivial
 |some p=>exact G _ _ rfl
theorem A2w {code:Array Nat}{q:Array Nat->Nat->Nat->Prop}(n:Ael code 0 q){a:Addr}{x:Str}{t:Tok}{st:Nat}{Q:Option Zy->Ad->Prop}(hz:x.cps.size<=16777216)(l:st<=x.cps.size)
  (h:∀r Z,Pb (q x.cps) st x.cps.size r->(match r,Z with|none,none=>True|some (a,b),some m=>M8 m (some (a,b))|_,_=>False)->Q Z s):
  A1 M A (reNextFound {pattern:=.ref a,string:=.str x t,code:=code,text:=x.cps,kind:=0,groups:=0,pos:=0,lim:=x.cps.size} st false) Q E s:=by
 refine Aa fun w=>?_;refine exe2 (n x.cps st l) fun r m' z=>?_;obtain⟨U,O,C⟩:=z;refine w ?_;refine wp_run U (Ab (Au _ (Bp hz _)) (by decide)) C (h r _ O ?_);cases r with
 |none=>trivial
 |some p=>exact C
theorem Rv {T:Array Nat}{b e:Nat}{Q:Ac->Ad->Prop}(hz:T.size<=16777216)(h:Q (.str ⟨T.extract b e⟩ s.toks) {s with toks:=s.toks+1}):A1 M A (reSlice T 0 b e) Q E s:=by
 refine wpAny_mkStr h ?_;show(T.extract b e).size<=Ky;rw[C7,Aye];exact Ab (Dy _ _) (Ab (Ad9 _ _) hz)
end
end
section
set_option autoImplicit true
open PySem.Builtin.Re
noncomputable def tk (c:Nat):Bool:=dg c||Ah3 c
noncomputable def Ez:Nat->List Nat->List (List Nat)
 |0,l=>[l]
 |f+1,l=>match l.dropWhile (fun c=> !tk c) with
  |[]=>[l.takeWhile (fun c=> !tk c)]
  |c::r=>if dg c=true then l.takeWhile (fun c=> !tk c)::(c::r).takeWhile dg::Ez f ((c::r).dropWhile dg)
   else l.takeWhile (fun c=> !tk c)::[c]::Ez f r
theorem Axl (l:List Nat):Ez 0 l=[l]:=rfl
theorem N0 (f:Nat)(l:List Nat):Ez (f+1) l=match l.dropWhile (fun c=> !tk c) with
  |[]=>[l.takeWhile (fun c=> !tk c)]
  |c::r=>if dg c=true then l.takeWhile (fun c=> !tk c)::(c::r).takeWhile dg::Ez f ((c::r).dropWhile dg)
   else l.takeWhile (fun c=> !tk c)::[c]::Ez f r:=rfl
theorem Aqk {P:Nat->Bool}:∀(k:Nat) (l:List Nat),k<=l.length->(∀i,i<k->P (l.getD i 0)=true)->(k<l.length->P (l.getD k 0)=false)->l.takeWhile P=l.take k/\l.dropWhile P=l.drop k
 |0,[],_,_,_=>⟨rfl,rfl⟩
 |0,c::r,_,_,h=>by have:=h (by simp);simp at this;simp[this]
 |k+1,[],hk,_,_=>by simp at hk
 |k+1,c::r,hk,U,O=>by
  have L:P c=true:=U 0 (Br _ _);obtain⟨W,D⟩:=Aqk k r (by simpa using hk) (fun i H=>U (i+1) (Dt (by assumption))) (fun h=>O (by simpa using h));simp[L,W,D]
theorem Rj (T:Array Nat)(p i:Nat):(T.toList.drop p).getD i 0=T.getD (p+i) 0:=by
 rw[B7,Zv,Dq,Array.getElem?_toList]
theorem Aci {T:Array Nat}{p:Nat}(I:p<=T.size){f:Nat}:∀{r:Option (Nat×Nat)},Pb (q1 T) p T.size r->
  match r with
  |none=>Ez (f+1) (T.toList.drop p)=[T.toList.drop p]
  |some (a,b)=>p<=a/\a<b/\b<=T.size/\Ez (f+1) (T.toList.drop p)=(T.toList.drop p).take (a-p)::(T.toList.drop a).take (b-a)::Ez f (T.toList.drop b)
 |none,h=>by
  have n:∀i,p<=i->i<T.size->tk (T.getD i 0)=false:=fun i U O=>by
   cases d:tk (T.getD i 0) with
   |false=>rfl
   |true=>
    exfalso;unfold tk at d;cases hd:dg (T.getD i 0) with
    |true=>exact h i U (Ba O) _ ⟨O,.inl ⟨hd,rfl⟩⟩
    |false=>rw[hd] at d;exact h i U (Ba O) _ ⟨O,.inr ⟨hd,d,rfl⟩⟩
  refine Aa fun X=>?_;obtain⟨W,D⟩:=Aqk (P:=fun c=> !tk c) (T.size-p) (T.toList.drop p) (by simp) (fun i H=>by rw[Rj,n _ (Bl _ _) (Ou H)];rfl) (fun h=>by simp at h);refine X ?_;show Ez (f+1) _=_;rw[N0];rw[D,W,Gx (by simp),Cj (by simp)]
 |some (a,b),⟨U,O,hq,G⟩=>by
  have n:∀i,p<=i->i<a->tk (T.getD i 0)=false:=fun i u B=>by
   cases d:tk (T.getD i 0) with
   |false=>rfl
   |true=>
    exfalso;unfold tk at d;cases hd:dg (T.getD i 0) with
    |true=>exact G i u B _ ⟨(Ay B O),.inl ⟨hd,rfl⟩⟩
    |false=>rw[hd] at d;exact G i u B _ ⟨(Ay B O),.inr ⟨hd,d,rfl⟩⟩
  obtain⟨M,hq⟩:=hq;have g:tk (T.getD a 0)=true:=by
   unfold tk;rcases hq with⟨hd,_⟩|⟨_,hd,_⟩
   ·rw[hd];rfl
   ·rw[hd,Bool.or_true]
  obtain⟨W,D⟩:=Aqk (P:=fun c=> !tk c) (a-p) (T.toList.drop p) (by simp;lia) (fun i H=>by rw[Rj,n _ (Bl _ _) (Ou H)];rfl) (fun h=>by rw[Rj,show p+(a-p)=a from(C8 U),g];rfl);have Q:T.toList.drop a=T.getD a 0::T.toList.drop (a+1):=by
   rw[Cc (M)];simp[Q5,M]
  have N:(T.toList.drop p).drop (a-p)=T.toList.drop a:=by rw[Wc];congr 1;exact C8 U
  rcases hq with⟨hd,rfl⟩|⟨hd,hs,rfl⟩
  ·have K:1<=Lo T a (T.size-a):=by
    rw[show T.size-a=(T.size-a-1)+1 from(Tj M)];rw[Ub];rw[if_pos hd];exact Br _ _
   have o:=Abp T (T.size-a) a;refine⟨U,by lia,(Ot O o),?_⟩;obtain⟨e,j⟩:=Aqk (P:=dg) (Lo T a (T.size-a)) (T.toList.drop a) (by simpa using o) (fun i H=>by rw[Rj];exact Ae1 T _ _ _ H) (fun h=>by rw[Rj];exact Ae2 T _ _ (by simpa using h));conv=>lhs;rw[N0]
   rw[D,N,Q,W];simp only[hd,if_true];rw[<-Q,e,j,Wc,show a+Lo T a (T.size-a)-a=Lo T a (T.size-a) from(Cn _ _)]
  ·refine⟨U,At _,by assumption,?_⟩;conv=>lhs;rw[N0]
   rw[D,N,Q,W];simp only[hd,if_false,Ch];rw[show a+1-a=1 from(Cn _ _)];rfl
set_option tactic.hygienic true in
theorem Sd:∀(f:Nat) (l:List Nat),(Ez f l).length<=2*f+1
 |0,l=>by simp[Axl]
 |f+1,l=>by
  rw[N0];split
  ·simp
  ·rename_i c r _;split
   ·simp only[qi];have:=Sd f (List.dropWhile dg (c::r));exact Dt (Dt this)
   ·simp only[qi];have:=Sd f r;exact Dt (Dt this)
theorem O3 (T:Array Nat)(a b:Nat):(T.extract a b)=((T.toList.drop a).take (b-a)).toArray:=by
 apply Oj.mp;simp[List.extract_eq_take_drop]
theorem Uj {vs:List Ac}{xs:List Str}(h:Md vs xs)(x:Str)(t:Tok):Md (vs++[.str x t]) (xs++[x]):=by
 induction h with
 |nil=>exact .cons _ _ .nil
 |cons _ _ _ J=>exact .cons _ _ J
section
variable {prog:Ia}{w:F7}{A:Bs}{E:Ac->Ad->Prop}{s:Ad}
noncomputable def Pz (L:List (List Nat)):List Str:=L.map fun l=>⟨l.toArray⟩
theorem Axm {a:Addr}{x:Str}{t:Tok}(hz:x.cps.size≤8000000):Ay6 (Builtin.«re.Pattern.split» ⟨[.ref a,.str x t],[]⟩) (fun A R s=>Pd s.heap a C1 1∧∀vs tk,Md vs (Pz (Ez (x.cps.size+1) x.cps.toList))→R (.ok (.ret (.ref s.heap.objs.size))) {s with toks:=tk,heap:=s.heap.push {cls:=.type "list",data:=.seq vs.toArray}}):=by
 refine .of_wp fun prog w A R s h=>?_;obtain⟨I,h⟩:=h;unfold Builtin.«re.Pattern.split»;refine Ag (Al ?_);dsimp only;refine Ag (Al ?_);refine Ag (Za I ?_);generalize u:(fun(x_1:Nat) (__s:Array Ac×Nat×Nat×Bool×Int×Bool)=>_)=f;have hover:∀(k:Nat) (o:Array Ac) (p l:Nat) (m:Bool) (n:Int),f k (o,p,l,m,n,true)=pure (He (o,p,l,m,n,true)):=by
  intros;subst u;rfl
 have hlast:∀(l:List Nat) (o:Array Ac) (p q:Nat) (m:Bool) (n:Int) (s':Ad) (Q:Array Ac×Nat×Nat×Bool×Int×Bool->Ad->Prop),Q (o,p,q,m,n,true) s'->A1 (model prog w) A.in1 (Adl l (o,p,q,m,n,true) f) Q (fun e s'=>R (.error e) s') s':=by
  intro l;induction l with
  |nil=>intro o p q m n s' Q h;rw[Q7];exact Al h
  |cons k l J=>
   intro o p q m n s' Q h;rw[Iw,hover];exact Ag (Al (J _ _ _ _ _ _ _ h))
 have hstep:∀(k:Nat) (c:List Ac) (p:Nat) (n:Int) (tk:Nat) (F:Nat) (done:List Str) (Q:ForInStep (Array Ac×Nat×Nat×Bool×Int×Bool)->Ad->Prop),p<=x.cps.size->Md c done->
   (Ez (F+1) (x.cps.toList.drop p)=[x.cps.toList.drop p]->Q (.yield (c.toArray,p,p,false,n,true)) {s with toks:=tk})->
   (∀b D g i,p<b->b<=x.cps.size->Md D g->g++Pz (Ez F (x.cps.toList.drop b))=done++Pz (Ez (F+1) (x.cps.toList.drop p))->Q (.yield (D.toArray,b,b,false,n+1,false)) {s with toks:=i})->
   A1 (model prog w) A.in1 (f k (c.toArray,p,p,false,n,false)) Q (fun e s'=>R (.error e) s') {s with toks:=tk}:=by
  intro k c p n tk F done Q I y U O;subst u;refine Ag (Ayd (s:={s with toks:=tk}) (Ab hz (by decide)) I fun r Z j K=>?_);cases r with
  |none=>
   cases Z with
   |some m=>exact K.elim
   |none=>exact Al (U (Aci I j))
  |some ab=>
   obtain⟨v,V⟩:=ab;cases Z with
   |none=>exact K.elim
   |some m=>
    have E:=Aci (f:=F) I j;refine Aa fun G=>?_;obtain⟨⟨d,B,Y⟩,H,k5⟩:=K;refine G ?_;refine Ag (Rv (T:=x.cps) (Ab hz (by decide)) ?_);rw[B];refine Ag ?_;show A1 _ _ (Adl [0] _ _) _ _ _;rw[Iw];refine Ag (Ag ?_);unfold reMachineGroup;rw[H,k5];refine V4 (congrArg (fun z=>A1 _ _ z _ _ _) (if_neg (by decide)).symm) ?_;show A1 _ _ (if V<v then reWrongSpan else reSlice x.cps 0 v V) _ _ _;rw[if_neg (C0 (Ba E.2.1))];refine Rv (T:=x.cps) (Ab hz (by decide)) ?_;refine Al ?_;show A1 _ _ (Adl [] _ _) _ _ _;refine Al (Al ?_);have W:(m.handed==v)=false:=beq_eq_false_iff_ne.mpr (by rw[Y];exact Ga E.2.1);rw[W,Y];have:=O V (c++[.str ⟨x.cps.extract p v⟩ tk,.str ⟨x.cps.extract v V⟩ (tk+1)]) (done++[⟨x.cps.extract p v⟩,⟨x.cps.extract v V⟩]) (tk+1+1) (Ah E.1 E.2.1) E.2.2.1
     (by have:=Uj (Uj y ⟨x.cps.extract p v⟩ tk) ⟨x.cps.extract v V⟩ (tk+1);simpa using this)
     (by rw[E.2.2.2];simp only[Pz,qk,O3,Az,qo,qm])
    simpa using this
 have hloop:∀(l:List Nat) (c:List Ac) (p:Nat) (n:Int) (tk:Nat) (F:Nat) (done:List Str) (Q:Array Ac×Nat×Nat×Bool×Int×Bool->Ad->Prop),p<=x.cps.size->Md c done->x.cps.size-p<l.length->x.cps.size-p<=F->
   (∀D g S M i,S<=x.cps.size->Md D g->g++Pz [x.cps.toList.drop S]=done++Pz (Ez (F+1) (x.cps.toList.drop p))->Q (D.toArray,S,S,false,M,true) {s with toks:=i})->
   A1 (model prog w) A.in1 (Adl l (c.toArray,p,p,false,n,false) f) Q (fun e s'=>R (.error e) s') {s with toks:=tk}:=by
  intro l;induction l with
  |nil=>intro c p n tk F done Q I y N;simp at N
  |cons k l J=>
   intro c p n tk F done Q I y N hF X;rw[Iw];refine Ag (hstep k c p n tk F done _ I y (fun e=>?_) fun b D g i P j2 j3 j4=>?_)
   ·exact hlast l _ _ _ _ _ _ _ (X c done p n tk I y (by rw[e]))
   ·cases F with
    |zero=>exact absurd (Ay (Oa (Ay P j2)) hF) (Em 0)
    |succ F=>exact J D b (n+1) i F g Q j2 j3 (by simp at N;exact A95 N P j2) (A94 hF P j2) fun out2 done2 L C tk2 q1 q2 q3=>X out2 done2 L C tk2 q1 q2 (q3.trans j4)
 refine Ag (hloop _ [] 0 0 s.toks x.cps.size [] _ (Cb _) .nil (by simp[reMostMatches];lia) (At _) fun c done p n tk I y e=>?_);dsimp only;have key:=Uj y ⟨x.cps.extract p x.cps.size⟩ tk;rw[show done++[⟨x.cps.extract p x.cps.size⟩]=Pz (Ez (x.cps.size+1) x.cps.toList) from by
   simp only[qm,Gy] at e;rw[<-e,O3,Cj (by simp)];rfl] at key
 refine Ag (Rv (T:=x.cps) (Ab hz (by decide)) (Ag (Adp ?_ ?_)))
 ·refine Al ⟨_,rfl,?_⟩;have:=h _ (tk+1) key;simpa using this
 ·have U:=key.len_eq;have O:=Sd (x.cps.size+1) x.cps.toList;simp only[Pz,Bn,As,qi,qj] at U;simp only[Ay1,As,qi,qj,C7];exact Ab (Ab (Aj U) (Ab O (A3 (Au _ (A3 hz))))) (by decide)
end
end
section
set_option autoImplicit true
open PySem.Builtin.Re
inductive Tg (q:Nat->Nat->Prop)(T:Array Nat)(rep:List Nat):Nat->List Nat->Prop
 |done {p:Nat}:Pb q p T.size none->Tg q T rep p (T.toList.drop p)
 |more {p a b:Nat}{out:List Nat}:Pb q p T.size (some (a,b))->Tg q T rep b out->Tg q T rep p ((T.toList.drop p).take (a-p)++rep++out)
noncomputable def Rh (l:List Str):List Nat:=(l.map fun x=>x.cps.toList).flatten
theorem Ud (l:List Str)(x:Str):Rh (l++[x])=Rh l++x.cps.toList:=by simp[Rh]
theorem Avj (l:List Str):(l.map (·.length)).sum=(Rh l).length:=by
 induction l with
 |nil=>rfl
 |cons x l J=>
  have:Rh (x::l)=x.cps.toList++Rh l:=rfl;rw[this,qk,Lw,J,As];rfl
theorem Abx (s:Str):∀(l:List Str) (g:Array Nat),l.foldl (fun g p=>g++s.cps++p.cps) g=g++((l.map fun x=>s.cps.toList++x.cps.toList).flatten).toArray
 |[],g=>by rfl
 |x::l,g=>by
  rw[List.foldl_cons,Abx s l];apply Oj.mp;simp[Be,Az]
theorem A09 (s:Str)(x:Str)(l:List Str):Cs s (x::l)=⟨x.cps++((l.map fun x=>s.cps.toList++x.cps.toList).flatten).toArray⟩:=by
 show Str.mk _=_;rw[show(x::l).drop 1=l from rfl,Abx];rfl
theorem Av6 (l:List Str):Cs ⟨#[]⟩ l=⟨(Rh l).toArray⟩:=by
 cases l with
 |nil=>rfl
 |cons x l=>
  rw[A09]
  congr 1
  simp[Rh]
section
variable {prog:Ia}{w:F7}{A:Bs}{E:Ac->Ad->Prop}{s:Ad}
theorem A17 {a:Addr}{x F:Str}{t u:Tok}{code:Array Nat}{q:Array Nat->Nat->Nat->Prop}(U:Ael code 0 q)(hz:x.cps.size<=1000000)(hq:∀a b,q x.cps a b->a<b/\b<=x.cps.size)(hrep:F.cps.size<=2)(L:Addr):
  ∀(d p:Nat)(n:Int),x.cps.size-p=d->p<=x.cps.size->Ay6 (Builtin.«re.Pattern.sub.loop» ⟨[.ref a,.str x t,.str F u,Hb 0,Hb 0,Hb n,Hb p,Hb p,.bool false,.ref L,.bool false],[]⟩)
   (fun A R s=>Pd s.heap a code 0/\(∃vs ys m,IsL s.heap L vs.toArray m/\Md vs ys/\vs.length<=2*p/\(Rh ys).length<=3*p/\
    ∀c tk i h',Tg (q x.cps) x.cps F.cps.toList p c->(∀b o,b≠L->s.heap.get? b=some o->h'.get? b=some o)->R (.ok (.ret (.str ⟨(Rh ys++c).toArray⟩ tk))) {s with toks:=i,heap:=h'})):=by
 intro d;induction d using A86 with
 |_ d J=>
  intro p n hd I prog w A R s h;refine Aa fun C=>?_;obtain⟨hpat,vs,ys,m,E,l,D,S,Q⟩:=h;refine C ?_;refine Ag (Za hpat ?_);refine V4 (congrArg (fun z=>A1 _ _ z _ _ _) (if_pos (by decide)).symm) ?_;refine Ag (show A1 _ _ (reLiteralCannotBeTurned (.str F u)) _ _ s from Ag (Al (Al ?_)));refine Ag (V4 (congrArg (fun z=>A1 _ _ z _ _ _) (if_neg (show ¬((0:Int) != 0&&decide (n≥0))=true by simp)).symm) ?_);refine A2w U (x:=x) (t:=t) (st:=p) (Ab hz (by decide)) I fun r om j hom=>?_;cases r with
  |none=>
   cases om with
   |some m=>exact hom.elim
   |none=>
    dsimp only;have H:∀(vs':List Ac) (Z:List Str) (m':Nat) (s':Ad),IsL s'.heap L vs'.toArray m'->Md vs' Z->(Rh Z).length<=16000000->
      (∀tk i,R (.ok (.ret (.str ⟨(Rh Z).toArray⟩ tk))) {s' with toks:=i})->
      A1 (model prog w) A.in1 (do
       let joiner<-reSlice x.cps 0 0 0
       let g<-seqItems? (.ref L)
       if(g.getD #[]).isEmpty=true then do
        let text<-pure joiner
        if false=true then do
         let g<-holding [text] do
          let g<-mkInt n
          A8l [text,g]
         ret g
        else ret text
       else do
        let text←call (.builtin "str.join") [joiner,.ref L]
        if false=true then do
         let g<-holding [text] do
          let g<-mkInt n
          A8l [text,g]
         ret g
        else ret text) (fun H s'=>match H with| .done f=>R (.ok f) s'| .again c'=>c'.quiet=true/\I1 (model prog w) A c' R s') (fun e s'=>R (.error e) s') s':=by
     intro vs' Z m' s' X hs' G hR';refine Ag (Rv (Ab hz (by decide)) ?_);refine Ag (Ag (Xz (show s'.heap.get? L=_ from X) (Al ?_)));cases hs' with
     |nil=>
      refine Ag (Al (Al ?_));have:=hR' s'.toks (s'.toks+1);have e:x.cps.extract 0 0= #[]:=by simp
      rw[e];exact this
     |cons y ty hs''=>
      have e:x.cps.extract 0 0= #[]:=by simp
      rw[e];refine Ag (join_list (s:={s' with toks:=s'.toks+1}) X.isList (show Md (_::_) _ from .cons y ty hs'') (by rw[Avj];show _+_*0<=_;exact Ab G (by decide)) fun P k=>Al ?_);rw[Av6];exact hR' P k
    have hSub:Tg (q x.cps) x.cps F.cps.toList p (x.cps.toList.drop p):=.done j;by_cases M:p<x.cps.size
    ·refine V4 (congrArg (fun z=>A1 _ _ z _ _ _) (if_pos (show((p:Int)).toNat<x.cps.size from M)).symm) ?_;refine Ag (Rv (T:=x.cps) (Ab hz (by decide)) ?_);refine Ag (X6 (show s.heap.get? L=_ from E) rfl ?_ (hz:=by rw[C7];simp;exact Ab (Ab D (Au _ (Ab I hz))) (by decide)) (_hz':=by rw[C7];simp;exact Ab (Ab D (Au _ (Ab I hz))) (by decide)));have X:=Uy E (fun xs=>xs.push (.str ⟨x.cps.extract p x.cps.size⟩ s.toks));rw[Sm] at X;have O:Rh (ys++[⟨x.cps.extract p x.cps.size⟩])=Rh ys++x.cps.toList.drop p:=by
      rw[Ud,O3,Cj (by simp)]
     refine H _ _ _ {s with heap:=s.heap.update L (Fp fun xs=>xs.push (.str ⟨x.cps.extract p x.cps.size⟩ s.toks)),toks:=s.toks+1} X (Uj l _ _) (by rw[O];simp;exact Ab (Ax (Ab S (Au _ (Ab I hz))) (Ab (Aj hd) (Ab (Aj (Eq.symm hd)) (Ab (Dy _ _) hz)))) (by decide)) fun tk i=>?_;rw[O];exact Q _ tk i _ hSub fun b o Y e=>((Es ..).2 b Y).trans e
    ·refine V4 (congrArg (fun z=>A1 _ _ z _ _ _) (if_neg (show ¬((p:Int)).toNat<x.cps.size from M)).symm) ?_;refine H vs ys m s E l (Ab (Ab S (Au _ (Ab I hz))) (by decide)) fun tk i=>?_;have e0:x.cps.toList.drop p=[]:=Gx (by simp;exact Cq M);rw[e0] at hSub;have:=Q [] tk i s.heap hSub (fun _ _ _ e=>e);rwa[Ct] at this
  |some ab=>
   obtain⟨v,V⟩:=ab;cases om with
   |none=>exact hom.elim
   |some m'=>
    have B:=hom.2.1;have j1:=(id j).1;have zx28:=hq _ _ (id j).2.2.1;have j6:=zx28.2;have W:(m'.handed==v)=false:=beq_eq_false_iff_ne.mpr (by rw[hom.2.2];exact Ga zx28.1);have go:∀(vs':List Ac) (Z:List Str) (n':Nat) (K:Heap) (tka:Nat),IsL K L vs'.toArray n'->Md vs' Z->vs'.length<=2*p+1->(Rh Z).length<=3*p+(v-p)->Rh Z=Rh ys++(x.cps.toList.drop p).take (v-p)->
      (∀b o,b≠L->s.heap.get? b=some o->K.get? b=some o)->
      A1 (model prog w) A.in1 (do
       let item<-pure (Mi F u)
       if(item != Jr)=true then do
        updateSeq L fun x=>x.push item
        again (Aq0 "re.Pattern.sub.loop" {pos:=[Ol a,Mi x t,Mi F u,Mh 0 0,Mh 0 0,Mh (n+1) 0,Mh (↑m'.handed) 0,Mh (↑m'.handed) 0,Zg (m'.handed==v),Ol L,Zg false]})
       else
        again (Aq0 "re.Pattern.sub.loop" {pos:=[Ol a,Mi x t,Mi F u,Mh 0 0,Mh 0 0,Mh (n+1) 0,Mh (↑m'.handed) 0,Mh (↑m'.handed) 0,Zg (m'.handed==v),Ol L,Zg false]})) (fun H s'=>match H with| .done f=>R (.ok f) s'| .again c'=>c'.quiet=true∧I1 (model prog w) A c' R s') (fun e s'=>R (.error e) s') {s with heap:=K,toks:=tka}:=by
     intro vs' Z n' K tka hLa hsa hv1 hf1z he1 hh1;refine Ag (Al ?_);refine V4 (congrArg (fun z=>A1 _ _ z _ _ _) (if_pos rfl).symm) ?_;refine Ag (X6 (show K.get? L=_ from hLa) rfl ?_ (hz:=by rw[C7];simp;exact Ab (Ab hv1 (A3 (Au _ (Ab I hz)))) (by decide)) (_hz':=by rw[C7];simp;exact Ab (Ab hv1 (A3 (Au _ (Ab I hz)))) (by decide)));have X:=Uy hLa (fun xs=>xs.push (.str F u));rw[Sm] at X;rw[W,hom.2.2];have hh2:∀b o,b≠L->s.heap.get? b=some o->(K.update L (Fp fun xs=>xs.push (.str F u))).get? b=some o:=fun b o Y e=>((Es ..).2 b Y).trans (hh1 b o Y e);refine Al ⟨M7 U5 _,Nj Qg ?_⟩;refine J (x.cps.size-V) (hd▸Ze (Ay (Ah j1 zx28.1) j6) (Ah j1 zx28.1)) V (n+1) rfl j6 prog w A R _ ⟨hpat.but E hh2,_,_,_,X,Uj hsa F u,?_,?_,fun c tk i h' N hh'=>?_⟩
     ·rw[As];exact Ab (A3 hv1) (Au 2 (Ah j1 zx28.1))
     ·rw[Ud,As];exact A97 hf1z hrep j1 zx28.1
     ·rw[Ud,he1];have:=Q ((x.cps.toList.drop p).take (v-p)++F.cps.toList++c) tk i h' (.more j N) fun b o Y e=>hh' b o Y (hh2 b o Y e);simpa[Az] using this
    by_cases M:p<v
    ·refine V4 (congrArg (fun z=>A1 _ _ z _ _ _) (if_pos (show((p:Int)).toNat<m'.start by rw[B];exact M)).symm) ?_;refine Ag (Rv (T:=x.cps) (Ab hz (by decide)) ?_);rw[B];refine Ag (X6 (show s.heap.get? L=_ from E) rfl ?_ (hz:=by rw[C7];simp;exact Ab (Ab D (Au _ (Ab I hz))) (by decide)) (_hz':=by rw[C7];simp;exact Ab (Ab D (Au _ (Ab I hz))) (by decide)));refine V4 (congrArg (fun z=>A1 _ _ z _ _ _) (if_pos rfl).symm) ?_;have X:=Uy E (fun xs=>xs.push (.str ⟨x.cps.extract p v⟩ s.toks));rw[Sm] at X;have O:Rh (ys++[⟨x.cps.extract p v⟩])=Rh ys++(x.cps.toList.drop p).take (v-p):=by
      rw[Ud,O3]
     exact go _ _ _ _ (s.toks+1) X (Uj l _ _) (by simp;exact D) (by rw[O];simp;exact Ax S (G5 _ _)) O fun b o Y e=>((Es ..).2 b Y).trans e
    ·refine V4 (congrArg (fun z=>A1 _ _ z _ _ _) (if_neg (show ¬((p:Int)).toNat<m'.start by rw[B];exact M)).symm) ?_;refine V4 (congrArg (fun z=>A1 _ _ z _ _ _) (if_pos rfl).symm) ?_;rw[B];exact go vs ys m s.heap s.toks E l (El (by assumption)) (Ab S (Bl _ _)) (by rw[show v-p=0 from(Ow (Cq M))];simp) fun b o Y e=>e
end
end
section
set_option autoImplicit true
open PySem.Builtin.Re
theorem A7l {a:Addr}{x F:Str}{t u:Tok}{code:Array Nat}{q:Array Nat->Nat->Nat->Prop}(n:Ael code 0 q)(hz:x.cps.size<=1000000)(hq:∀a b,q x.cps a b->a<b/\b<=x.cps.size)(K:F.cps.size<=2)(L:F.cps.contains 92=false):
  Ay6 (Builtin.«re.Pattern.sub» ⟨[.ref a,.str F u,.str x t],[]⟩) (fun A R s=>Pd s.heap a code 0/\
   ∀c tk i h',Tg (q x.cps) x.cps F.cps.toList 0 c->(∀b o,s.heap.get? b=some o->h'.get? b=some o)->R (.ok (.ret (.str ⟨c.toArray⟩ tk))) {s with toks:=i,heap:=h'}):=by
 intro prog w A R s h;obtain⟨I,h⟩:=h;unfold Builtin.«re.Pattern.sub» reSubstitute;refine Ag (Al ?_);refine Ag (Al ?_);refine Ag (Ag (wpAny_typeOf (Qa ..) ?_));refine Al ?_;refine V4 (congrArg (fun z=>A1 _ _ z _ _ _) (if_neg (by decide)).symm) ?_;refine Ag (Al ?_);refine Ag (Al ?_);refine V4 (congrArg (fun z=>A1 _ _ z _ _ _) (if_neg (by decide)).symm) ?_;refine V4 (congrArg (fun z=>A1 _ _ z _ _ _) (if_pos (by rw[L];rfl)).symm) ?_;refine Ag (Al ?_);refine Ag (Ci (Za I ?_));refine V4 (congrArg (fun z=>A1 _ _ z _ _ _) (if_neg (show ¬((0:Nat)==1)=true by decide)).symm) ?_;refine Ag (Adp ?_ (by simp));refine Al ⟨M7 U5 _,Nj Qg ?_⟩;refine A17 (code:=code) (q:=q) n hz hq K s.heap.objs.size _ 0 0 rfl (Cb _) prog w A R _ ⟨I.up (E6 _ _),[],[],_,Cy _ rfl,.nil,by simp,by simp[Rh],fun c tk i h' Q C=>?_⟩;refine h c tk i h' Q fun b o e=>C b o (fun Y=>?_) (E6 _ _ _ _ e);rw[Y,Ge] at e;cases e
end
section
section
variable {c:Cx}{k:Nat}{S:Sg}
theorem Ags {x:Str}{p:Pos}{a:Addr}(R:S.names.lookup x=some .globalImplicit)(z:c.mg x=some (.ref a))(m:(x==("__debug__":Str))=false:=by decide):SE c k S (.Name x p) (kE (.fn a)):=by
 intro A G g s B Z J V d Z' Q E P T e X;replace X:=X.cast e;exact Fi (Dp T.kind (by show G.scope.names.lookup x=_;rw[T.sc];exact R) (Lj (T.glob.symm▸T.top.top.g.keeps T.keep) z (X g s B _ (Ev.refl _ _ _) T (.p (.fn a))))) m
theorem Azu {x:Str}{p:Pos}{y:Str}{t:Tok}(R:S.names.lookup x=some .globalImplicit)(z:c.mg x=some (.str y t))(m:(x==("__debug__":Str))=false:=by decide):SE c k S (.Name x p) (kE (.str y)):=by
 intro A G g s B Z J V d Z' Q E P T e X;replace X:=X.cast e;exact Fi (Dp T.kind (by show G.scope.names.lookup x=_;rw[T.sc];exact R) (Lj (T.glob.symm▸T.top.top.g.keeps T.keep) z (X g s B _ (Ev.refl _ _ _) T (.p (.str y t))))) m
noncomputable def Ace (a0:Addr)(a:EM)(t:LM)(f:List MV->Mu->Option (MV×Mu)):EM:=fun V Z=>(a V Z).bind fun x=>x.1.f?.bind fun b=>if b=a0 then(t V x.2).bind fun y=>f (x.1::y.1) y.2 else none
theorem Az4 {u:Type}{l:List (Bool×u)}(h:l.any (·.1)=false):l.all (fun x=> !x.1)=true:=Bd.mpr fun y T=>by rw[Fn,<-Adk];exact A20.mp h y T
theorem Aaz {o:Expr}{name:Str}{z pos:Pos}{C:List Expr}{T id:String}{a0:Addr}{ob:Obj}{a:EM}{la:LM}{f:List MV->Mu->Option (MV×Mu)}(M:SE c k S o a)(N:SL c k S C la)(O:ON c k (fun vs=>call (.builtin id) vs) f)
  (hob:c.K.lookup a0=some ob)(hoc:ob.cls=.type T)(hod:ob.dict=none)
  (pa:Bbp T)(slot:Slot T name id)(hty:Bbr (.builtin id)=pure (.type "method_descriptor"))
  (hbase:∀G,Qo o name G (eval o G)=eval o G)(l:∀G,(E7 C G).any (·.1)=false)(h:C.length<30)(hst:∀G,(E7 C G).length=C.length)
  (Y:(z.endLine==pos.line)=true):SE c k S (.Call (.Attribute o name z) C [] pos) (Ace a0 a la f):=fun A G g s B Z J V d Z' Q E P T e X=>Aw e fun x W e=>Aw e fun b D e=>Aw (Am e).2 fun y t e4=>by
 have hany:(Aed pos (E7 C G)).any (·.1)=false:=by rw[Fb];exact l G
 have hall:(Aed pos (E7 C G)).all (fun x=> !x.1)=true:=Az4 hany;refine Lh (hbase G) (by rw[hall,Fv];exact decide_eq_true (show C.length+0<30 from h)) Y pa slot hty ?_;refine M A G g s B Z J V x.1 x.2 _ E P T W fun u s1z L v K I r=>?_;have F:v=.ref a0:=by rw[MV.f_i D,((Am e).1)] at r;exact r.pl
 rw[F] at r |-
 have hob1:=I.keep _ _ (I.top.k _ _ hob);refine⟨⟨_,hob1,hoc⟩,fun a e=>Aeh e▸⟨_,hob1,hod⟩,Gv hany (Dr hany ?_)⟩;refine N pos A G u s1z L x.2 J V y.1 y.2 _ E P I t fun gb j q vs i H rb=>?_;exact O S A G gb j q y.2 J V (_::y.1) (_::vs) d Z' Q E P H (.cons (r.up i.up i.pre) rb) e4 fun n p m w R U rc=>X n p m w ((K.trans i).trans R) U rc
theorem Axq {g:Heap}{vs:List Ac}{ys:List Str}(h:Md vs ys):PRs g (ys.map .str) vs:=by
 induction h with
 |nil=>exact .nil
 |cons _ t _ J=>exact .cons (.str _ t) J
noncomputable def Ah6 (a0:Addr):List MV->Mu->Option (MV×Mu)
 |[x,y],Z=>x.f?.bind fun b=>y.s?.bind fun x=>if b=a0/\x.cps.size<=8000000 then some (.p (.list ((Pz (Ez (x.cps.size+1) x.cps.toList)).map .str)),Z) else none
 |_,_=>none
theorem At4 {a0:Addr}(I:∀g,c.K.In g→Pd g a0 C1 1):ON c k (fun vs=>call (.builtin "re.Pattern.split") vs) (Ah6 a0):=Al6 (fun _ _ _ e=>Ac4 e) fun S A G g s B Z J V x y v w d Z' Q E P T r Y e X=>Aw e fun b W e=>Aw e fun z D e=>by
 have h:=(Am e).1;rw[MV.f_i W,h.1] at r;rw[MV.s_i D] at Y;obtain⟨t,rfl⟩:=Y.pl;rw[show v=_ from r.pl];have M:=(I g T.top.k).up T.keep;refine(id M).rec fun o _ _ _ _ _ _ _ U O _ _ _ _ _ _ _ _ _ _=>?_;refine P8 Tz ⟨o,U,O⟩ Z2 (Abd _ _) (Axm h.2) ⟨M,fun vs tk a=>?_⟩;exact X.cast (Am e).2 _ _ B _ (T.ev (E6 s.heap {cls:=.type "list",data:=.seq vs.toArray}) tk).2 (T.ev (E6 s.heap {cls:=.type "list",data:=.seq vs.toArray}) tk).1 (.p (.list (n:=0) (Nv Ge (Cy _ rfl)) (Axq a)))
noncomputable def Axr (a0:Addr)(F:Str)(fn:List Nat->List Nat):List MV->Mu->Option (MV×Mu)
 |[x,y,z],Z=>x.f?.bind fun b=>y.s?.bind fun r=>z.s?.bind fun x=>if b=a0/\r=F/\x.cps.size<=1000000 then some (.p (.str ⟨(fn x.cps.toList).toArray⟩),Z) else none
 |_,_=>none
theorem At5 {a0:Addr}{code:Array Nat}{q:Array Nat->Nat->Nat->Prop}{F:Str}{fn:List Nat->List Nat}(n:Ael code 0 q)(I:∀g,c.K.In g->Pd g a0 code 0)(hq:∀T a b,q T a b->a<b/\b<=T.size)(K:F.cps.size<=2)(L:F.cps.contains 92=false)
  (hfn:∀(T:Array Nat) j,Tg (q T) T F.cps.toList 0 j→j=fn T.toList):ON c k (fun vs=>call (.builtin "re.Pattern.sub") vs) (Axr a0 F fn):=fun S A G g s B Z J V xs vs d Z' Q E P T i e X=>by
 obtain⟨x,y,z,rfl⟩:∃x y z,xs=[x,y,z]:=by
  clear i;cases xs with
  |nil=>exact A2 e
  |cons x l=>cases l with
   |nil=>exact A2 e
   |cons y l=>cases l with
    |nil=>exact A2 e
    |cons z l=>cases l with
     |nil=>exact exi3 x y z rfl
     |cons z' l=>exact A2 e
 refine exe3 i.i3 fun u v w H=>?_;obtain⟨rfl,r,Y,R⟩:=H;refine Aw e fun b W e=>Aw e fun rp D e=>Aw e fun z N e=>?_;have h:=(Am e).1;rw[MV.f_i W,h.1] at r;rw[MV.s_i D,h.2.1] at Y;rw[MV.s_i N] at R;obtain⟨t,rfl⟩:=Y.pl;obtain⟨f,rfl⟩:=R.pl;rw[show u=_ from r.pl];have M:=(I g T.top.k).up T.keep;refine(id M).rec fun o _ _ _ _ _ _ _ U O _ _ _ _ _ _ _ _ _ _=>?_;refine P8 Sc ⟨o,U,O⟩ Adz (Ag3 _ _ _) (A7l n h.2.2 (hq _) K L) ⟨M,fun j tk m h' p C=>?_⟩;rw[hfn _ _ p];exact X.cast (Am e).2 _ _ B _ (T.ev (h':=h') C m).2 (T.ev (h':=h') C m).1 (.p (.str _ _))
noncomputable def niS (x y:MV)(Z:Mu):Option (MV×Mu):=x.s?.bind fun a=>y.s?.bind fun g=>some (.p (.bool (!Kb g a)),Z)
theorem A4x:O2 c k (Gu .NotIn) niS:=fun S A G g s B Z J V x y v w d Z' Q E l T r Y e X=>Aw e fun a W e=>Aw e fun b D e=>by
 rw[MV.s_i W] at r;rw[MV.s_i D] at Y;obtain⟨t,rfl⟩:=r.pl;obtain⟨f,rfl⟩:=Y.pl;exact P.notIn_str (X.sm T e (.bool _))
end
end
noncomputable def Oh:Bool->List Nat->List Nat
 |_,[]=>[]
 |b,c::r=>if(b&&c==46)=true then 46::46::Oh (c==10) r else c::Oh (c==10) r
theorem Vp (b:Bool)(c:Nat)(r:List Nat):Oh b (c::r)=if(b&&c==46)=true then 46::46::Oh (c==10) r else c::Oh (c==10) r:=rfl
theorem A5r (b:Bool):Oh b []=[]:=rfl
noncomputable def G3:Nat->List Nat->List Nat
 |0,_=>[]
 |_,[]=>[]
 |n+1,c::r=>if c=13 then(match r with
   |10::Y=>13::10::G3 n Y
   |r=>13::10::G3 n r) else if c=10 then 13::10::G3 n r else c::G3 n r
theorem Ap3 (l:List Nat):G3 0 l=[]:=rfl
theorem Aam (n:Nat):G3 n []=[]:=by cases n<;>rfl
theorem Qj (n c:Nat)(r:List Nat):G3 (n+1) (c::r)=if c=13 then(match r with
   |10::Y=>13::10::G3 n Y
   |r=>13::10::G3 n r) else if c=10 then 13::10::G3 n r else c::G3 n r:=rfl
theorem O8 {T:Array Nat}{p:Nat}(h:p<T.size):T.toList.drop p=T.getD p 0::T.toList.drop (p+1):=by
 rw[Cc (h)];simp[Q5,h]
noncomputable def Ad3 (T:Array Nat)(p:Nat):Bool:=p==0||T.getD (p-1) 0==10
theorem Af4 (T:Array Nat)(p:Nat):Ad3 T (p+1)=(T.getD p 0==10):=by unfold Ad3;simp
theorem Abs {T:Array Nat}:∀(d p a:Nat),a-p=d->p<=a->a<=T.size->(∀i,p<=i->i<a->(Ad3 T i&&T.getD i 0==46)=false)->Oh (Ad3 T p) (T.toList.drop p)=(T.toList.drop p).take (a-p)++Oh (Ad3 T a) (T.toList.drop a)
 |0,p,a,hd,I,M,_=>by
  have:a=p:=(Eh (Dm hd) I);subst this;simp
 |d+1,p,a,hd,I,M,h=>by
  rw[O8 (show p<T.size from(A3q hd M))];conv=>lhs;rw[Vp]
  rw[if_neg (by rw[h p (At _) (Qd hd)];simp),<-Af4,Abs d (p+1) a (Wp hd) (Qd hd) M fun i U O=>h i (Ba (by assumption)) O];rw[show a-p=(a-(p+1))+1 from(Tj (Qd hd)),P7,qo]
theorem Bcl (T:Array Nat):∀(p:Nat) (c:List Nat),Tg (q2 T) T [46,46] p c->p<=T.size->c=Oh (Ad3 T p) (T.toList.drop p):=by
 intro p c h;have s:∀i,Ad3 T i=true↔(i=0\/T.getD (i-1) 0=10):=fun i=>by unfold Ad3;simp
 induction h with
 | @done p K=>
  intro I;rw[Abs _ p T.size rfl I (At _) fun i U O=>?_]
  ·rw[Cj (by simp),show T.toList.drop T.size=[] from Gx (by simp)];simp[A5r]
  ·rw[U9];cases l:Ad3 T i with
   |false=>exact .inl rfl
   |true=>
    right;rw[beq_eq_false_iff_ne];exact fun e=>K i U (Ba (by assumption)) _ ⟨(s i).mp l,O,e,rfl⟩
 | @more p a b c K _ J=>
  intro I;refine Aa fun C=>?_;obtain⟨U,O,⟨q1,q2,q3,rfl⟩,G⟩:=K;refine C ?_;rw[J (by assumption),Abs _ p a rfl U O fun i u B=>?_,Az]
  ·rw[O8 q2];conv=>rhs;rw[Vp]
   rw[if_pos (by rw[(s a).mpr q1,q3];rfl),Af4];rfl
  ·rw[U9];cases l:Ad3 T i with
   |false=>exact .inl rfl
   |true=>
    right;rw[beq_eq_false_iff_ne];exact fun e=>G i u B _ ⟨(s i).mp l,(Ay (by assumption) (by assumption)),e,rfl⟩
theorem Yw {T:Array Nat}:∀(d p a:Nat),a-p=d->p<=a->a<=T.size->(∀i,p<=i->i<a->¬(T.getD i 0=10\/T.getD i 0=13))->G3 (T.size-p) (T.toList.drop p)=(T.toList.drop p).take (a-p)++G3 (T.size-a) (T.toList.drop a)
 |0,p,a,hd,I,M,_=>by
  have:a=p:=(Eh (Dm hd) I);subst this;simp
 |d+1,p,a,hd,I,M,h=>by
  have L:=h p (At _) (Qd hd);rw[O8 (show p<T.size from(A3q hd M)),show T.size-p=(T.size-(p+1))+1 from(A5j hd M)];conv=>lhs;rw[Qj]
  rw[if_neg (fun e=>L (.inr e)),if_neg (fun e=>L (.inl e)),Yw d (p+1) a (Wp hd) (Qd hd) M fun i U O=>h i (Bm U) O];rw[show a-p=(a-(p+1))+1 from(Tj (Qd hd)),P7,qo]
theorem Yv:∀(n m:Nat) (l:List Nat),l.length<=n->l.length<=m->G3 n l=G3 m l
 |0,0,_,_,_=>rfl
 |0,m+1,[],_,_=>by simp[Aam]
 |0,m+1,c::r,h,_=>by simp at h
 |n+1,0,[],_,_=>by simp[Aam]
 |n+1,0,c::r,_,h=>by simp at h
 |n+1,m+1,[],_,_=>by simp[Aam]
 |n+1,m+1,c::r,U,O=>by
  have e:=Yv n m r (by simpa using U) (by simpa using O);simp only[Qj];split
  ·split
   ·rename_i Y;rw[Yv n m Y (by simp at U;exact Bm U) (by simp at O;exact Bm O)]
   ·rw[e]
  ·rw[e]
theorem Bcm (T:Array Nat):∀(p:Nat) (c:List Nat),Tg (q3 T) T [13,10] p c->p<=T.size->c=G3 (T.size-p) (T.toList.drop p):=by
 intro p c h;induction h with
 | @done p K=>
  intro I;rw[Yw _ p T.size rfl I (At _) fun i U O L=>?_]
  ·rw[Cj (by simp),show T.toList.drop T.size=[] from Gx (by simp)];simp[Ap3]
  ·rcases L with L|L
   ·exact K i U (Ba (by assumption)) _ ⟨O,.inr (.inl ⟨L,rfl⟩)⟩
   ·by_cases R:i+1<T.size/\T.getD (i+1) 0=10
    ·exact K i U (Ba (by assumption)) _ ⟨O,.inl ⟨L,R,rfl⟩⟩
    ·exact K i U (Ba (by assumption)) _ ⟨O,.inr (.inr ⟨L,R,rfl⟩)⟩
 | @more p a b c K _ J=>
  intro I;refine Aa fun X=>?_;obtain⟨U,O,hq,G⟩:=K;refine X ?_;have f:=Aan hq;have Y:b<=T.size:=by rcases hq.2 with⟨_,R,rfl⟩|⟨_,rfl⟩|⟨_,_,rfl⟩<;>first|exact Ft R.1|exact Ft f.1
  rw[J Y,Yw _ p a rfl U O fun i u B L=>?_,Az]
  ·congr 1
   obtain⟨M,hq⟩:=hq;rw[O8 M,show T.size-a=(T.size-(a+1))+1 from(Tj f.1)];conv=>rhs;rw[Qj]
   rcases hq with⟨e1,⟨e2,e3⟩,rfl⟩|⟨e1,rfl⟩|⟨e1,e2,rfl⟩
   ·rw[if_pos e1,O8 e2,e3];rw[Yv (T.size-(a+2)) (T.size-(a+1)) _ (by simp) (by rw[D0,P4];exact Nat.sub_le_sub_left (J1 _) _)];rfl
   ·rw[if_neg (J6 (Ah (Aj e1) (by decide))),if_pos e1];rfl
   ·rw[if_pos e1];by_cases R:a+1<T.size
    ·have W:T.getD (a+1) 0≠10:=fun e=>e2 ⟨R,e⟩;rw[O8 R];split
     ·rename_i d g;exact absurd (Hw g).1 W
     ·rfl
    ·rw[Gx (by simp;exact Cq R)];rfl
  ·rcases L with L|L
   ·exact G i u B _ ⟨(Ay (by assumption) (by assumption)),.inr (.inl ⟨L,rfl⟩)⟩
   ·by_cases R:i+1<T.size/\T.getD (i+1) 0=10
    ·exact G i u B _ ⟨(Ay (by assumption) (by assumption)),.inl ⟨L,R,rfl⟩⟩
    ·exact G i u B _ ⟨(Ay (by assumption) (by assumption)),.inr (.inr ⟨L,R,rfl⟩)⟩
section
theorem Arj (l:Addr)(items:Array Ac)(n:Nat)(b:Addr)(a:Array Ac)(C:Nat)(E:Option Addr)(sl:Array (Option Ac))(d:¬(!items.isEmpty&&P5 (items.size+a.size))=true)(e:items.size<=Ky)(c:items.size+a.size<=Ky+1):
  Ay6 (Builtin.«list.extend» ⟨[.ref l,.ref b],[]⟩) (fun _ R s=>s.heap.get? l=some {cls:=.type "list",dict:=none,data:=.seq items n,slots:= #[]}∧s.heap.get? b=some {cls:=.type "tuple",dict:=E,data:=.seq a C,slots:=sl}∧R (.ok (.ret Jr)) {s with heap:=s.heap.update l (Fp fun x=>x++a),toks:=s.toks}):=
 .of_wp fun prog w A R s h=>by
  have N:=h.1;have Y:=h.2.1;have i:(items++a).size<=Ky+1:=Ay0▸c
  wp_walk using(X6 N rfl (hz:=e) (_hz':=i)),Cf N,Cf Y
  exact⟨_,rfl,h.2.2⟩
section
variable {c:Cx}{k:Nat}{S:Sg}
noncomputable def Apc:List MV->Mu->Option (MV×Mu)
 |[x,y],Z=>x.m?.bind fun i=>y.tu?.bind fun j=>(Lq Z i).bind fun l=>if l.length+j.length<=1000000 then some (.p .none,Z.set i (some (.lst (l++j)))) else none
 |_,_=>none
theorem Azn:ON c k (fun vs=>call (.builtin "list.extend") vs) Apc:=Al6 (fun _ _ _ e=>Ac4 e) fun S A G g s B Z J V x y v w d Z' Q E P T r Y e X=>Aw e fun i e0 e=>Aw e fun j W e=>Aw e fun l D e=>by
 rw[MV.m_i e0] at r;rw[MV.tu_i W] at Y;refine Aa fun C=>?_;refine exe2 Y.pl fun b H h=>?_;obtain⟨rfl,U,p⟩:=h;refine exe3 (T.muGet r (Jx D)) fun a ws n o=>?_;obtain⟨rfl,M,t,q⟩:=o;have hz:ws.length+H.length<=1000000:=by rw[q.length,p.length];exact(Am e).1
 have R:=T.muSet (Jx D) M t (f:=fun xs=>xs++H.toArray) (vs':=ws++H) (by simp) (q.append p) s.toks;obtain⟨⟨u,K,I,F⟩,m,L,z,hd⟩:=Hu T.keep.s U;refine C ?_;dsimp only at L hd;rw[L,hd] at m;exact P8 PySem.F.slot_list_extend ⟨_,t,rfl⟩ PySem.F.entry_list_extend (PySem.F.args_list_extend_2 _ _) (Arj a _ n b _ z K F (by simp[P5,Ky];lia) (by rw[D4,C7];exact Ab (Bl _ _) (Ab hz (by decide))) (by rw[D4,D4,C7];exact Ab hz (by decide)))
  ⟨t,m,X.cast (Am e).2 _ _ B _ R.2 R.1 (.p .none)⟩
noncomputable def okT (x:Str):Bool:=decide (x.length<=640)&&x.cps.toList.all fun c=>decide (c<128)
noncomputable def Um (M q:Nat)(i:List (Str×Int)):SM:=fun V Z=>(at? V M).bind fun m=>m.s?.bind fun x=>if okT x=true then(match PySem.intText? x with
  |some n=>some (.next,(V.set M (some (.p (.int n)))).set q (some (.p (.int 100))),Z)
  |none=>some (.next,V.set q (some (.p (.int (Aq3 i x 0)))),Z)) else none
theorem Aoe {A:Bs}{E:Ac->Ad->Prop}{Q:Ac->Ad->Prop}{D:Str}{M:Nat}{d:Str}{vk:VK}{I:Addr}{i:List (Str×Int)}{x:Str}{G:Env}{g:Heap}{s:Ad}{B:List Addr}{Z:Mu}{J:List (Addr×Hd)}{V:Sl}
  {m p l j h:Pos}{L:Nat}(T:St c S G g s B Z J V)
  (F:S.vars[M]?=some (d,vk))(R:V[M]?=some (some (.p (.str x))))(hD:S.names.lookup D=some .globalImplicit)(H:c.mg D=some (.ref I))(u:∀g,c.K.In g->StrTab c.prog c.w g I (kdpD i))
  (n:(d==("__debug__":Str))=false)(z:(d==("__classdict__":Str))=false)(C:(D==("__debug__":Str))=false)(Y:(p.endLine==h.line)=true)
  (X:∀tk t,Q (.int (Aq3 i x 0) t) {s with toks:=tk}):
  A1 c.M A (eval (.Call (.Attribute (.Name D m) (oS "get") p) [.Name d l,.Constant (.int 0) L j] [] h) G) Q E s:=by
 refine Lh rfl rfl Y PySem.F.plainAttrs_dict PySem.F.slot_dict_get PySem.F.type_dict_get ?_;have N:=(u g T.top.k).keep (fun b o e=>T.keep b o e);refine Fi (Dp T.kind (by show G.scope.names.lookup D=_;rw[T.sc];exact hD) (Lj (T.glob.symm▸T.top.top.g.keeps T.keep) H ?_)) C;refine Aa fun P=>?_;obtain⟨k,kvs,hd,O⟩:=id N;obtain⟨o,y,U⟩:=Heap.dictOf_iff.mp hd;refine exe2 U fun w f q=>?_;have K:=q.1;refine P ?_;refine⟨⟨o,y,K.1⟩,fun a e=>by cases e;exact⟨o,y,K.2.1⟩,?_⟩;refine Gv rfl (Dr rfl ?_);refine Jf (Fi (T.read F R z fun v r=>?_) n);refine Jf ?_;refine Alz ?_;refine O7 ?_;obtain⟨t,rfl⟩:=r.pl;exact kdp_get2 (s:={s with toks:=s.toks+1}) N fun t=>X _ t
theorem A1q {x:Str}(h:okT x=true):x.length<=640/\∀c∈x.cps.toList,c<128:=by
 unfold okT at h;rw[A0] at h;exact⟨of_decide_eq_true h.1,fun c L=>of_decide_eq_true (Bd.mp h.2 c L)⟩
theorem A7j {G:Env}{t m:Expr}{l:Nat}(U:G.scope.kind=.function)(O:G.scope.names=S.names)(h:Fo m (some t) l (O0 S)=pure false):swapsWithSole [t] m l G=pure false:=by
 show Fo m (some t) l G=pure false;rw[I9 U O];exact h
end
end
section
section
variable {c:Cx}{k:Nat}{S:Sg}{env:Env}{g:Heap}{s:Ad}{B:List Addr}{Z:Mu}{fs:List (Addr×Hd)}{V:Sl}
theorem Apq {l:List (Addr×Hd)}(A:(l.map (·.1)).Nodup){q r:Addr×Hd}(hq:q∈l)(j:r∈l)(e:q.1=r.1):q=r:=by
 induction l with
 |nil=>cases hq
 |cons x l J=>
  rw[qk,C4] at A;rcases Av.mp hq with h1|h1
  ·rcases Av.mp j with h2|h2
   ·rw[h1,h2]
   ·exact absurd (Bj.mpr ⟨r,h2,by rw[<-e,h1]⟩) A.1
  ·rcases Av.mp j with h2|h2
   ·exact absurd (Bj.mpr ⟨q,h1,by rw[e,h2]⟩) A.1
   ·exact J A.2 h1 h2
noncomputable def Ab7:Hd->Bool
 | .obj _=>true
 |_=>false
theorem FSt.slots (F:FSt c g s B Z fs){h':Heap}(tk:Nat)(hk:∀b o,s.heap.get? b=some o->(∀q∈fs,Ab7 q.2=false->b≠q.1)->h'.get? b=some o)(K:∀q∈fs,Ab7 q.2=false->q.2.Ok h' q.1):FSt c g {s with heap:=h',toks:=tk} B Z fs:=by
 have n:∀b o,g.get? b=some o->∀q∈fs,Ab7 q.2=false->b≠q.1:=fun b o e q hq _ h=>by rw[h,(F.fr q hq).2.1] at e;cases e
 have f:∀a∈B,∀q∈fs,Ab7 q.2=false->a≠q.1:=fun a M q hq _ h=>(F.fr q hq).2.2 (h▸M);refine⟨fun b o e=>hk b o (F.keep _ _ e) (n b o e),F.bare,F.len,fun i o a H M=>?_,F.dead,F.nd,fun a M=>?_,fun q hq=>?_,F.fnd,F.top,fun q hq=>?_,F.tnd⟩
 ·have d:=F.mu i o a H M;have U:=d.1;have O:=d.2;exact⟨U,O.up Up.rfl fun x e=>hk a x e (f a (Bo M))⟩
 ·obtain⟨o,e⟩:=F.liv a M;exact⟨o,hk a o e (f a M)⟩
 ·obtain⟨U,O,C⟩:=F.fr q hq;refine⟨?_,O,C⟩;cases y:Ab7 q.2 with
  |false=>exact K q hq y
  |true=>
   obtain⟨a,hd⟩:=q;cases hd with
   |obj o=>
    refine⟨hk _ _ U.1 fun r j k e=>?_,U.2⟩;have:=Apq F.fnd hq j e;rw[<-this] at k;cases k
   |ns m=>cases y
   |st=>cases y
 ·obtain⟨U,ps,z⟩:=F.tab q hq;have O:=z.1;have C:=z.2;exact⟨U,ps,hk _ _ O fun r j _=>(F.fr r j).1.net O,C⟩
theorem St.slots (T:St c S env g s B Z fs V){m:Str->Option Ac}(z:s.heap.Ns env.locals m){h':Heap}(tk:Nat)(hk:∀b o,s.heap.get? b=some o->b≠env.locals->(∀q∈fs,Ab7 q.2=false->b≠q.1)->h'.get? b=some o)(E:h'.Ns env.locals m)(K:∀q∈fs,Ab7 q.2=false->q.2.Ok h' q.1):
  St c S env g {s with heap:=h',toks:=tk} B Z fs V/\Ev g s B g {s with heap:=h',toks:=tk} B:=by
 refine Aa fun w=>?_;obtain⟨mz,i⟩:=T.fst;have F:=i.1;have e:m=mz:=by funext x;exact z.agree (F.fr _ (.head _)).1 x
 subst e;refine w ?_;have N:=F.slots (h':=h') tk (fun b o e h=>hk b o e (h _ (.head _) rfl) fun q hq=>h q (.tail _ hq)) fun q hq y=>by
  rcases Av.mp hq with rfl|hq
  ·exact E
  ·exact K q hq y
 refine⟨T.frame N Up.rfl (Bi _) (fun m' h=>?_) fun a o U O=>?_,Ev.same Up.rfl rfl⟩
 ·funext x;exact h.agree z x
 ·refine⟨U,?_⟩;refine Aa fun n=>?_;obtain⟨J,e,d⟩:=id O;refine n ?_;exact⟨J,hk a J e (Jj z e fun X f q=>by rw[d] at q;cases q) fun q hq _=>(F.fr q (.tail _ hq)).1.nec O,d⟩
theorem A31 {l:List (Addr×Hd)}{L:Addr}{x:HK}(h:(L,x)∈l.map kd):∃q,(L,q)∈l/\(kd (L,q)).2=x:=
 (Bj.mp h).elim fun p z=>⟨p.2,(show p.1=L from congrArg Ato z.2)▸z.1,congrArg Aiu z.2⟩
theorem Baq {l:List (Addr×Hd)}{L:Addr}(h:(L,HK.ns)∈l.map kd):∃m,(L,Hd.ns m)∈l:=
 (A31 h).elim fun q=>q.casesOn (fun m z=>⟨m,z.1⟩) (fun _ z=>nomatch z.2) fun _ z=>nomatch z.2
theorem Bar {l:List (Addr×Hd)}{L:Addr}(h:(L,HK.st)∈l.map kd):∃o,(L,Hd.st o)∈l:=
 (A31 h).elim fun q=>q.casesOn (fun _ z=>nomatch z.2) (fun _ z=>nomatch z.2) fun o z=>⟨o,z.1⟩
theorem St.catch (T:St c S env g s B Z fs V){A:Bs}(P:Aiw A k env ((env.locals,HK.ns)::fs.map kd)){h':Heap}{tk:Nat}{e:Addr}{X:String}
  (hk:∀b o,s.heap.get? b=some o->h'.get? b=some o)(hnew:s.heap.get? e=none)(hob:∃ob tt,h'.get? e=some ob/\ob.cls=.type X/\ob.data=.fields #[tt,.none,.none,.none,.bool false,.none])
  {Q:Flow->Ad->Prop}{E:Ac->Ad->Prop}{t:Expr}{b0:Stmt}{suite:List Stmt}{pos:Pos}{rest:List Ayu}{T':String}
  (hexc:Ay8 (.type T') (.type "BaseException")=pure true)(hnt:Ay8 (.type ((Manifest.find? T').elim "type" fun y=>y.metatype)) (.type "tuple")=pure false)(hsub:Ay8 (.type X) (.type T')=pure true)
  (n:∀(A:Bs)(E:Ac->Ad->Prop) d s',St c S env d s' B Z fs V->∀Q:Ac->Ad->Prop,Q (.type T') s'->A1 c.M A (eval t env) Q E s')
  (M:∀d s' (E:Ac->Ad->Prop),Ev g s B d s' B->St c S env d s' B Z fs V->A1 c.M (A.mark (some (.ref e))) (execs (b0::suite) env) Q E s'):
  A1 c.M A (Aat (.ref e) env) (fun _ j=>A1 c.M A (setFlight (.ref e) none) (fun _ p=>A1 c.M A (handleBy (.ref e) env (.ExceptHandler (some t) none (b0::suite) pos::rest)) Q E p) E j) E {s with heap:=h',toks:=tk}:=by
 refine Aa fun zk7=>?_;obtain⟨P,outer,hfr⟩:=P;obtain⟨outer',hfr',hout⟩:=P.frames;have eo:outer'=env::outer:=by rw[hfr] at hfr';exact(Af hfr').symm
 subst eo;obtain⟨m,zz57⟩:=T.ns';have F:=zz57.2;refine zk7 ?_;have hsm:(H2,HK.st)∈(env.locals,HK.ns)::fs.map kd:=P.sta;have key:∀L,(L,HK.ns)∈(env.locals,HK.ns)::fs.map kd->∃m',(L,Hd.ns m')∈(env.locals,Hd.ns m)::fs:=fun L h=>Baq (l:=(env.locals,Hd.ns m)::fs) h;obtain⟨so,hso⟩:=Bar ((Av.mp hsm).resolve_left fun e=>nomatch congrArg Aiu e);have hns:∀L m',(L,Hd.ns m')∈(env.locals,Hd.ns m)::fs->L≠H2:=fun L m' h e=>nomatch congrArg Aiu (Apq F.fnd h (.tail _ hso) e);have frs:∀{l:List Env},(∀e∈l,e.scope.kind≠.module/\∃L,e.frame=some L/\(L,HK.ns)∈(env.locals,HK.ns)::fs.map kd)->∀Ls:List Addr,(∀e∈l,∀L,e.frame=some L->L∈Ls)->h'.FunFrames (A3a h' Ls) l:=by
  intro l;induction l with
  |nil=>intro _ _ _;trivial
  |cons x l J=>
   intro N Ls hLs;refine Aa fun zk11=>?_;obtain⟨U,L,O,C⟩:=N x (.head _);obtain⟨m',G⟩:=key L C;refine exe3 ((F.fr _ G).1) fun o es ep zz47=>?_;have r:=zz47.1;have hd:=zz47.2.1;exact zk11 ⟨U,⟨L,o,O,A3b _ (hLs x (.head _) L O),hk L o r,fun vs q=>by rw[hd] at q;cases q⟩,J (fun e he=>N e (.tail _ he)) Ls fun e he=>hLs e (.tail _ he)⟩
 refine Aa fun zk12=>?_;refine exe2 hob fun ob tt zz42=>?_;refine zk12 ?_
 let Ls:=(env::outer).filterMap (·.frame)++[e]
 have inLs:∀x∈env::outer,∀L,x.frame=some L->L∈Ls:=fun x R L hL=>Gg _ (Ig.mpr ⟨x,R,hL⟩);refine Aa fun zk13=>?_;obtain⟨_,L0,zz39⟩:=hout env (.head _);refine zk13 ?_;have Lsk:∀b∈Ls,b=e\/∃m',(b,Hd.ns m')∈(env.locals,Hd.ns m)::fs:=fun b Y=>(B6.mp Y).symm.imp A6.mp fun h=>
  (Ig.mp h).elim fun x z=>(hout x z.1).2.elim fun L w=>(show L=b from Af (w.1.symm.trans z.2))▸key L w.2
 have hes:s.heap.get? e=none:=hnew;have stay:(A3a h' Ls).StaysIn h':=fun b o q=>of_hideAll _ q;have hen:(A3a h' Ls).get? e=none:=A3b _ (Kl _ (Cd _));unfold Aat;simp only[zz39.1];refine Ag (Oe zz42.1 zz42.2.2 (x:=Jr) rfl ?_);rw[if_neg (show ¬(Jr != Jr)=true by decide)];refine wpAny_newEntryW hfr (frs hout Ls inLs) zz39.1 zz42.1 stay hen zz42.2.2 (show 1<6 by decide) (a0:=tt) rfl fun K hLeft=>?_;have zz34:=hLeft;have l1:=zz34.1;have l2:=zz34.2.1;refine Aa fun zk14=>?_;refine exe5 zz34.2.2.1 fun oe vs Tb oT ts zz26=>?_;obtain⟨r2,r3⟩:=zz26.2.1;have r6:=zz26.2.2.2.2.1;have r7:=zz26.2.2.2.2.2.1;have r8:=zz26.2.2.2.2.2.2.1;have r9:=zz26.2.2.2.2.2.2.2.1;refine zk14 ?_;have slot:∀i:Heap,(∀b o,b≠Tb->K.get? b=some o->i.get? b=some o)->∀v,St c S env g {s with heap:=i,toks:=v} B Z fs V/\Ev g s B g {s with heap:=i,toks:=v} B:=by
  intro i h12 v;have ns2:∀(L:Addr) (m':Str->Option Ac),h'.Ns L m'->i.Ns L m':=fun L m' f=>by
   have n1:K.Ns L m':=Heap.UpToSlots.ns zz34.2.2.2 f;refine Heap.Ns.at n1 fun o r=>h12 L o (fun q=>?_) r;refine exe3 n1 fun o' es ep zw18=>?_;obtain⟨ho',hd',_⟩:=zw18;rw[q,r8] at ho';cases ho';rw[r9] at hd';cases hd'
  have nsOf:∀(L:Addr) (m':Str->Option Ac),(L,Hd.ns m')∈(env.locals,Hd.ns m)::fs->i.Ns L m':=fun L m' h=>by
   have f:s.heap.Ns L m':=(F.fr _ h).1;exact ns2 L m' (Heap.Ns.at f fun o r=>hk L o r)
  refine T.slots zz57.1 v (fun b o Y hbl hbf=>?_) (nsOf _ _ (.head _)) fun q hq r=>?_
  ·have hbL:b∉Ls:=fun hm'=>(Lsk b hm').elim (fun q=>nomatch (q▸Y).symm.trans hes) fun q=>q.elim fun m' h=>(Av.mp h).elim (fun h=>hbl (congrArg Ato h)) fun h=>hbf _ h rfl rfl;have hbb:=A8s Ls (hk b o Y) hbL;refine h12 b o (fun q=>?_) (l1 b o hbb);rw[q,r6] at hbb;cases hbb
  ·obtain⟨a,hd'⟩:=q;cases hd' with
   |ns m'=>exact nsOf a m' (.tail _ hq)
   |obj o=>cases r
   |st so'=>
    obtain⟨U,u,mc,O,C⟩:=(F.fr _ (.tail _ hq)).1;have U:a=H2:=U;have haL:a∉Ls:=fun hm'=>(Lsk a hm').elim (fun q=>nomatch (q▸u).symm.trans hes) fun q=>q.elim fun m' h=>hns a m' h U;have hbb:=A8s Ls (hk a _ u) haL;have D:i.get? a=some so':=h12 a _ (fun q=>by rw[q,r6] at hbb;cases hbb) (l1 a _ hbb);exact⟨U,D,mc,Heap.Ns.at O fun o r=>by
     have W:s.heap.get? a=some so':=u;rw[r] at W;cases W;exact D,C⟩
 have I:=(slot K (fun _ _ _ h=>h) tk).1;refine wpAny_handleBy_builtin (X:=X) (T:=T') (b:=true) hexc hnt hsub (n _ _ g _ I _ ⟨rfl,⟨oe,zz26.1,r2.trans zz42.2.1⟩,?_⟩);rw[if_pos rfl];refine wpAny_setFlight_none zz26.1 zz26.2.2.1 zz26.2.2.2.1 r8 r9 (Kx.mp zz26.2.2.2.2.2.2.2.2).1 ?_;obtain⟨H,ev2⟩:=slot (K.update Tb (Obj.mapFields (·.setIfInBounds 3 .none))) (fun b o Y h=>(Ayx _ _ _ _ Y).trans h) tk;exact M g _ _ ev2 H
end
end
section
open Sem (wp)
section
variable {prog:Ia}{w:F7}{A:Bs}{E:Ac->Ad->Prop}{s:Ad}{env:Env}
theorem Ajg {M:Mg}{c:Code}{R:Ic->Ad->Prop}(hq:c.quiet=true)(I:Nat->Ad->Prop)
  (t:∀n s,I n s->wpC M (A.under c) (M.den c)
   (fun H s'=>match H with
    | .done f=>R (.ok f) s'
    | .again c'=>(c'=c/\∃m,m<n/\I m s')\/(c'.quiet=true/\Jv M A c' R s')) (fun e s'=>R (.error e) s') s)
  (n:Nat)(h:I n s):Jv M A c R s:=by
 induction n using A86 generalizing s with
 |ind n J=>
  refine Ir (Kh (t n s h) (fun H s' O=>?_) fun _ _ h'=>h');cases H with
  |done f=>exact O
  |again c'=>
   rcases O with⟨rfl,m,hm,hI⟩|O
   ·exact⟨hq,J m hm hI⟩
   ·exact O
theorem Adu {R:Ic->Ad->Prop}{target:Expr}{q:Ac}{body:List Stmt}(I:Nat->Ad->Prop)
  (t:∀n s,I n s->A1 (model prog w) A (Ata q) (fun r s1z=>match r with
   |none=>R (.ok .next) s1z
   |some v=>A1 (model prog w) A (Rz target q v) (fun _ l=>
     A1 (model prog w) A (assign target env v) (fun _ j=>wpC (model prog w) A (execs body env) (fun f p=>match f with
      | .next| .cont=>∃m,m<n/\I m p
      | .brk=>R (.ok .next) p
      | .ret v=>R (.ok (.ret v)) p) noE j) noE l) noE s1z) noE s)
  (n:Nat)(h:I n s):Jv (model prog w) A (.forLoop target q body [] env) R s:=by
 refine Ajg rfl I (fun n s B=>?_) n h;show wpC _ A ((forTurn target q body [] env).onRaise (fun x=>do Aat x env;theTreesLotGoes x)) _ _ s;refine L9 ?_;refine B8 (Df (F1 (L9 (M5 (Do (t n s B) (fun r s1z K=>?_) fun _ _ h'=>h')))));cases r with
 |none=>exact Ey (.inr ⟨rfl,Ajh (codeAny_block (show A1 _ _ (pure Flow.next) _ _ _ from Al K))⟩)
 |some v=>
  refine B8 (Do K (fun _ l Y=>?_) fun _ _ h'=>h'.elim);refine B8 (Do Y (fun _ j i=>F1 (Kh i (fun f p X=>?_) fun _ _ h'=>h')) fun _ _ h'=>h'.elim);cases f with
  |next=>exact Ey (.inl ⟨rfl,X⟩)
  |cont=>exact Ey (.inl ⟨rfl,X⟩)
  |brk=>exact Ey X
  |ret v=>exact Ey X
end
section
variable {c:Cx}
theorem Aji {a:Expr}{body:List Stmt}{A:Bs}{G:Env}{R:Ic->Ad->Prop}{s:Ad}
  (h:A1 c.M A (isTrue a G (eval a G)) (fun b s1z=>if b=true then wpC c.M A (execs body G) (fun f j=>match f with
   | .next=>Jv c.M A (.whileLoop a body [] G) R j
   | .cont=>Jv c.M A (.whileLoop a body [] G) R j
   | .brk=>R (.ok .next) j
   | .ret v=>R (.ok (.ret v)) j) (fun _ _=>False) s1z else R (.ok .next) s1z) (fun _ _=>False) s):Jv c.M A (.whileLoop a body [] G) R s:=by
 refine Ir ?_;show wpC c.M A ((whileTurn a body [] G).onRaise _) _ _ s;refine L9 ?_;refine B8 (Do h (fun b s1z K=>?_) fun _ _ e=>e.elim);cases b with
 |true=>
  refine F1 (Kh K (fun f j i=>?_) fun _ _ e=>e.elim);cases f with
  |next=>exact Ey ⟨rfl,i⟩
  |cont=>exact Ey ⟨rfl,i⟩
  |brk=>exact Ey i
  |ret v=>exact Ey i
 |false=>
  rw[if_neg (by decide)] at K |-
  exact B8 (Al (Ey K))
noncomputable def SXC (c:Cx)(k:Nat)(S:Sg)(t:Env->Sem Flow)(f:SM):Prop:=
 ∀(A:Bs)(G:Env)(g:Heap)(s:Ad)(B:List Addr)(Z:List (Option MO))(J:List (Addr×Hd))(V:List (Option MV))(fl:Fl)(V':List (Option MV))(Z':List (Option MO))(Q:Flow->Ad->Prop)(E:Ac->Ad->Prop),
  Aiw A k G ((G.locals,HK.ns)::J.map kd)->St c S G g s B Z J V->f V Z=some (fl,V',Z')->
  KX c S G g s B Z' J V' fl Q->wpC c.M A (t G) Q E s
noncomputable def SEC (c:Cx)(k:Nat)(S:Sg)(e:Expr)(f:EM):Prop:=
 ∀(A:Bs)(G:Env)(g:Heap)(s:Ad)(B:List Addr)(Z:List (Option MO))(J:List (Addr×Hd))(V:List (Option MV))(d:MV)(Z':List (Option MO))(Q E:Ac->Ad->Prop),
  AOk A k ((G.locals,HK.ns)::J.map kd)->St c S G g s B Z J V->f V Z=some (d,Z')->
  KV c S G g s B Z' J V d Q->wpC c.M A (eval e G) Q E s
variable {k:Nat}{S:Sg}
theorem SXC.of {t:Env->Sem Flow}{f:SM}(h:SXT c k S t f):SXC c k S t f:=fun A G g s B Z J V fl V' Z' Q E P T e X=>M5 (h A G g s B Z J V fl V' Z' Q E P T e X)
theorem B9 {x:Stmt}{r:List Stmt}{f q:SM}(U:SXC c k S (exec x) f)(O:SXC c k S (execs r) q):SXC c k S (execs (x::r)) (B5 f q):=by
 intro A G g s B Z J V fl V' Z' Q E l T e X;refine Aw e fun y W e=>?_;refine F1 (U A G g s B Z J V y.1 y.2.1 y.2.2 _ E l T W fun u s1z L w K I F=>?_);generalize y.1=z at e F;cases F with
 |next=>exact O A G u s1z L y.2.2 J y.2.1 fl V' Z' Q E l I e (X.ev K)
 |brk=>exact Ey (X.cast e u s1z L _ K I .brk)
 |cont=>exact Ey (X.cast e u s1z L _ K I .cont)
 |ret r=>exact Ey (X.cast e u s1z L _ K I (.ret r))
theorem At9 {t:Expr}{a b:List Stmt}{pos:Pos}{f:BM}{fa p:SM}(d:SB c k S t f)(M:SXC c k S (execs a) fa)(Y:SXC c k S (execs b) p):SXC c k S (exec (.If t a b pos)) (ifX f fa p):=by
 intro A G g s B Z J V fl V' Z' Q E l T e X;refine Aw e fun y W e=>?_;refine A8b (d A G g s B Z J V y.1 y.2 _ E l.1 T W fun u s1z L K I=>?_);generalize y.1=z at e;cases z with
 |true=>exact M A G u s1z L y.2 J V fl V' Z' Q E l I e (X.ev K)
 |false=>exact Y A G u s1z L y.2 J V fl V' Z' Q E l I e (X.ev K)
theorem Aa1 {t m:Expr}{pos:Pos}{a:EM}{f:TM}(M:SEC c k S m a)(d:STa c k S t f)
  (U:Fo m (some t) pos.line (O0 S)=pure false)(O:Gd [t] m (O0 S)=pure none)
  (C:∀G,(Aec [t] G).map (·.2)=[assign t G]):SXC c k S (exec (.Assign [t] m pos)) (Cp a f):=by
 intro A G g s B Z J V fl V' Z' Q E l T e X;have P:=l.1;refine Aa fun z=>?_;refine Aw e fun b W e=>?_;refine E4 e fun i D e=>?_;cases e;refine z ?_;refine Qn (M A G g s B Z J V b.1 b.2 _ E P T W fun u s1z L v Y I F=>?_) ?_ ?_
 ·rw[C];exact d A G u s1z L b.2 J V b.1 v _ _ _ E P I F D fun gb j q h H=>X gb j q _ (Y.trans h) H .next
 ·exact(I9 (S:=S) T.kind T.sc m (some t) pos.line).trans U
 ·rw[Gr T.kind T.sc];exact O
theorem Ai1 {e:Expr}{pos:Pos}{a:EM}(M:SEC c k S e a)(U:Fo e none pos.line (O0 S)=pure false):SXC c k S (exec (.Expr e pos)) (H5 a):=by
 intro A G g s B Z J V fl V' Z' Q E l T e X;refine Aa fun y=>?_;refine E4 e fun z W e=>?_;cases e;refine y ?_;refine Ayb (M A G g s B Z J V z.1 z.2 _ E l.1 T W fun u s1z L v Y I F=>X u s1z L _ Y I .next) ?_ ?_
 ·unfold interactive;rw[T.kind];rfl
 ·rw[I9 T.kind T.sc];exact U
theorem Azx {e:Expr}{pos:Pos}{a:EM}(M:SEC c k S e a):SXC c k S (exec (.Return (some e) pos)) (O6 a):=by
 intro A G g s B Z J V fl V' Z' Q E l T e X;refine Aa fun w=>?_;refine E4 e fun z W e=>?_;cases e;refine w ?_;exact Aod (M A G g s B Z J V z.1 z.2 _ E l.1 T W fun u s1z L v Y I F=>X u s1z L _ Y I (.ret F))
end
end
section
open Sem (wp)
noncomputable def FCC (c:Cx)(k:Nat)(f:Addr)(spec:FM):Prop:=
 ∀(A:Bs)(g:Heap)(s:Ad)(B:List Addr)(Z:Mu)(J:List (Addr×Hd))(C:List MV)(vs:List Ac)(r:PV)(Z':Mu)(R:Ic->Ad->Prop),
  AOk A k (J.map kd)->FSt c g s B Z J->VRs g B C vs->spec C Z=some (r,Z')->
  (∀N s' v,Ev g s B N s' B->FSt c N s' B Z' J->PR N r v->R (.ok (.ret v)) s')->Jv c.M A (.call (.ref f) ⟨vs,[]⟩) R s
noncomputable def ONC (c:Cx)(k:Nat)(t:List Ac->Sem Ac)(f:List MV->Mu->Option (MV×Mu)):Prop:=
 ∀(S:Sg)(A:Bs)(G:Env)(g:Heap)(s:Ad)(B:List Addr)(Z:Mu)(J:List (Addr×Hd))(V:Sl)(xs:List MV)(vs:List Ac)(d:MV)(Z':Mu)(Q E:Ac->Ad->Prop),
  AOk A k ((G.locals,HK.ns)::J.map kd)->St c S G g s B Z J V->VRs g B xs vs->f xs Z=some (d,Z')->
  KV c S G g s B Z' J V d Q->wpC c.M A (t vs) Q E s
section
variable {c:Cx}{k:Nat}{S:Sg}{env:Env}{g:Heap}{s:Ad}{B:List Addr}{Z:Mu}{fs:List (Addr×Hd)}{V:Sl}
theorem FCC.of {f:Addr}{spec:FM}(h:FC c k f spec):FCC c k f spec:=fun A g s B Z J C vs r Z' R P F i e Q=>Ajh (h A g s B Z J C vs r Z' R P F i e Q)
theorem FCC.mono {k a:Nat}{f:Addr}{spec:FM}(h:FCC c k f spec)(hk:k<=a):FCC c a f spec:=fun A g s B Z J C vs r Z' R P F i e Q=>h A g s B Z J C vs r Z' R (P.le hk) F i e Q
theorem FCC.spec {f:Addr}{spec spec':FM}(h:FCC c k f spec)(H:∀C Z x,spec' C Z=some x->spec C Z=some x):FCC c k f spec':=fun A g s B Z J C vs r Z' R P F i e Q=>h A g s B Z J C vs r Z' R P F i (H _ _ _ e) Q
theorem SEC.of {e:Expr}{f:EM}(h:SE c k S e f):SEC c k S e f:=fun A G g s B Z J V d Z' Q E P T e X=>M5 (h A G g s B Z J V d Z' Q E P T e X)
theorem Aq7 {a:Expr}{body:List Stmt}{pos:Pos}{t:BM}{b:SM}(n:Nat)(d:SB c k S a t)(Y:SXC c k S (execs body) b):SXC c k S (exec (.While a body [] pos)) (F8 t b n):=by
 have m:∀n,Atv c k S (fun A G R s=>Jv c.M A (.whileLoop a body [] G) R s) (F8 t b n):=fun n=>by
  induction n with
  |zero=>exact fun A G g s B Z J V fl V' Z' R P T e=>A2 e
  |succ n O=>
   refine fun A G g s B Z J V fl V' Z' R P T e l=>Aw e fun x W e=>Aji (d A G g s B Z J V x.1 x.2 _ _ P.1 T W fun u s1z L K I=>?_);generalize x.1=z at e;cases z with
   |true=>
    refine Aw e fun y D e=>Y A G u s1z L x.2 J V y.1 y.2.1 y.2.2 _ _ P I D fun gb j q w i H h=>?_;have f:=K.trans i;generalize y.1=z at e h;cases h with
    |next=>exact O A G gb j q y.2.2 J y.2.1 fl V' Z' R P H e (l.ev f)
    |cont=>exact O A G gb j q y.2.2 J y.2.1 fl V' Z' R P H e (l.ev f)
    |brk=>exact l.cast e gb j q _ f H .next
    |ret r=>exact l.cast e gb j q _ f H (.ret r)
   |false=>exact l.cast e u s1z L _ K I .next
 intro A G g s B Z J V fl V' Z' Q E P T e X;exact Asp (m n A G g s B Z J V fl V' Z' _ P T e X)
theorem Agu {target y:Expr}{body:List Stmt}{pos:Pos}{q:IM}{t:TM}{b:SM}(H:SI c k S target y q)(z:STa c k S target t)(Y:SXC c k S (execs body) b)
  (O:∀G x,Lg y G x=pure x):SXC c k S (exec (.For target y body [] pos)) (R8 q t b):=by
 intro A G g s B Z J V fl V' Z' Q E l T e X;have P:=l.1;refine Aw e fun zy24 W e=>?_;refine A2r ?_ (O G);refine H A G g s B Z J V zy24.1 zy24.2.1 zy24.2.2 _ E P T W fun u s1z L iv own R K I ok F=>?_;refine Adu (A4r c S G u s1z L J zy24.1 t b R (fl,V',Z')) ?_ (zy24.2.1+1)
  ⟨0,u,L,zy24.2.2,V,own,Ev.refl _ _ _,I,F,e⟩
 rintro m j ⟨i,gb,B2z,Z2z,σ₂,ownb,h2z,T2z,rb,e⟩;cases m with
 |zero=>cases e
 |succ m=>
  refine Aw e fun r D e=>?_;cases r with
  |none=>
   replace X:=X.cast e;refine ok.done P.hh T2z rb D fun M p U o=>?_;exact(X M p B2z _ ((K.trans h2z).trans U) o .next)
  |some d=>
   refine Aa fun C=>?_;refine Aw e fun zy25 N e=>?_;refine Aw e fun zy26 a e=>?_;obtain⟨fl3,V4z,Z4z⟩:=zy26;refine C ?_;refine ok.item P.hh T2z rb D (Q:=fun v p=>A1 c.M A (assign target G v) (fun _ j=>wpC c.M A (execs body G) (fun f p=>match f with
      | .next| .cont=>∃m',m'<m+1/\_
      | .brk=>_
      | .ret v=>_) _ j) _ p) (fun M p own3 v U o rc rv=>?_) (fun v s' h=>h)
   refine z A G M p B2z Z2z _ σ₂ d v zy25.1 zy25.2 _ _ P.own o rv N fun gd sd B4z ev4 T4z=>?_;refine Y A G gd sd B4z zy25.2 _ zy25.1 fl3 V4z Z4z _ _ ⟨P.own,l.2⟩ T4z a fun g5 s5z B5z w ev5 T5z r5=>?_;have n:=((h2z.trans U).trans ev4).trans ev5;cases r5 with
   |next=>exact⟨m,Gm _,⟨i+1,g5,B5z,Z4z,V4z,own3,n,T5z,(ok.mono rc (ev4.trans ev5).up (ev4.trans ev5).pre),e⟩⟩
   |cont=>exact⟨m,Gm _,⟨i+1,g5,B5z,Z4z,V4z,own3,n,T5z,(ok.mono rc (ev4.trans ev5).up (ev4.trans ev5).pre),e⟩⟩
   |brk=>exact X.cast e g5 s5z B5z _ (K.trans n) T5z.own_drop .next
   |ret rv=>exact X.cast e g5 s5z B5z _ (K.trans n) T5z.own_drop (.ret rv)
theorem Wd {f:Addr}{o:Obj}{fd:J8}{S:Sg}{body:List Stmt}{ps:List Str}{K:SM}(D:Atq c f o fd S body ps)(Y:SXC c k S (execs body) K):FCC c (k+1) f (Fq ps.length S.vars.length K):=by
 intro A g s B Z J C vs r Z' R P F i e Q;have N:=(Am e).1;refine Aw (Am e).2 fun x W L=>?_;refine E4 W fun y O t=>?_;subst t;refine Uq (Ah (Bl _ _) P.depth) (F.keep _ _ (F.top.k _ _ D.look)) D.data D.cor D.gen D.body ((Bbw (F.top.k) D.code).keeps F.keep) ?_;rw[D.bind vs (i.length▸N),D.clos,D.glob,D.blt];exact Al (Aal (St.binds (fun n v u=>rfl) C vs ps 0 _ _ _ (F.enter D.kind D.names D.fits _ rfl) i N.symm (fun j x E=>(Cg j).symm▸D.slots j x E) fun d G H=>⟨Vu P.sta H,Amr (Y _ _ g d B Z J _ y.1 y.2.1 y.2.2 _ _ (P.enter D.kind rfl) H O fun b p m w a U l=>
  F.fin (s1z:={s with heap:=Jb (s.heap.push {cls:=.type "frame",data:=.dict #[]}) fd.scope.names}) Ac7 rfl (G.trans a) U l L Q)⟩))
theorem Wf {a:Addr}{spec:FM}(h:FCC c k a spec):ONC c k (fun vs=>call (.ref a) vs) (fcF spec):=by
 intro S A G g s B Z J V xs vs d Z' Q E P T i e X;refine Aa fun w=>?_;refine E4 e fun y W e=>?_;cases e;obtain⟨m,z,F⟩:=T.ns';refine w ?_;refine Xr (h A _ s B Z ((G.locals,.ns m)::J) xs vs y.1 _ _ P F.call (i.up (Ih F.keep (Hh c B ((G.locals,.ns m)::J))) (Bi _)) W fun gb s' v f Y j=>?_);refine Aa fun n=>?_;refine T.calledE z f Y fun b O o u=>?_;refine n ?_;exact X b s' B v O o (.p (j.ups (Ac6 u)))
theorem Q9 {x:Str}{p pos:Pos}{C:List Expr}{a:Addr}{o:Obj}{fd:J8}{t:LM}{f:List MV->Mu->Option (MV×Mu)}(N:SL c k S C t)(O:ONC c k (fun vs=>call (.ref a) vs) f)
  (R:S.names.lookup x=some .globalImplicit)(z:c.mg x=some (.ref a))(y:c.K.lookup a=some o)(hd:o.data=.func fd)(l:∀G,(E7 C G).any (·.1)=false)(m:(x==("__debug__":Str))=false:=by decide):SEC c k S (.Call (.Name x p) C [] pos) (Cm f t):=by
 intro A G g s B Z J V d Z' Q E P T e X;refine Aw e fun b W e=>?_;refine Ali ?_;refine Fi (Dp T.kind (by show G.scope.names.lookup x=_;rw[T.sc];exact R) (Lj (T.glob.symm▸T.top.top.g.keeps T.keep) z ?_)) m;refine S5 (o:=o) (fd:=fd) (Dr (by rw[Fb];exact l G) ?_);refine N pos A G g s B Z J V b.1 b.2 _ E P T W fun u s1z L vs K I F=>⟨⟨I.keep _ _ (I.top.k _ _ y),hd⟩,?_⟩;exact O S A G u s1z L b.2 J V b.1 vs d Z' Q E P I F e fun gb j q v i H h=>X gb j q v (K.trans i) H h
end
end
section
open PySem.NumText
open Sem (wp)
section
variable {prog:Ia}{w:F7}{A:Bs}{E:Ac->Ad->Prop}{s:Ad}
theorem Aj1 {x:Str}{t u:Tok}{n:Int}(N:x.length≤640)(K:PySem.intText? x=some n):Ay6 (Builtin.«int.__new__» ⟨[.type "int",.str x t,.int 10 u],[]⟩) (fun A R s=>R (.ok (.ret (.int n s.toks))) {s with toks:=s.toks+1}):=by
 refine .of_wp fun prog w A R s h=>?_;rw[Ab6];rcases read0 x (Ab (A8m x) N) with⟨m,h1,h2,h3⟩|⟨h1,_⟩
 ·cases K.symm.trans h1;exact Ag (KIN.wp_text (Ab (A8m x) N) h3 h2 (Al ⟨_,rfl,h⟩))
 ·exact nomatch K.symm.trans h1
theorem Amo {x:Str}{t u:Tok}{n:Int}{Q:Ac->Ad->Prop}(N:x.length<=640)(K:PySem.intText? x=some n)
  (h:Q (.int n s.toks) {s with toks:=s.toks+1}):A1 (model prog w) A (call (.type "int") [.str x t,.int 10 u]) Q E s:=by
 refine callType_new F.called_int F.newNe_int (T5 _ _) (U4 _ _) (fun obj=>Ph obj _ _) F.entry_int_new (Aj1 N K) ?_;exact⟨typeIs_int ..,h⟩
end
section
variable {c:Cx}{k:Nat}{S:Sg}
theorem Al9 {D xv xt:Str}{M q:Nat}{vk vk':VK}{aD:Addr}{tb:List (Str×Int)}{p1 p2 p3 p4 p5 p6 p7 p8 p9 p10 p11 p12 p13 p14 p15 p16 p17 p18 p19:Pos}{i a n3:Nat}
  (F:S.vars[M]?=some (xv,vk))(hvk:vk≠.cap)(d:S.vars[q]?=some (xt,vk'))(j:vk'≠.cap)(hD:S.names.lookup D=some .globalImplicit)(hmD:c.mg D=some (.ref aD))(u:∀g,c.K.In g->StrTab c.prog c.w g aD (kdpD tb))
  (H:S.names.lookup (oS "int")=some .globalImplicit)(hmi:c.mg (oS "int")=none)(hbi:c.mb (oS "int")=some (.type "int"))
  (hE:S.names.lookup (oS "ValueError")=some .globalImplicit)(hmE:c.mg (oS "ValueError")=none)(hbE:c.mb (oS "ValueError")=some (.type "ValueError"))
  (hdv:(xv==("__debug__":Str))=false)(hcv:(xv==("__classdict__":Str))=false)(hdD:(D==("__debug__":Str))=false)(Y:(p13.endLine==p16.line)=true)
  (s1:Fo (.Call (.Name (oS "int") p2) [.Name xv p3,.Constant (.int 10) i p4] [] p5) (some (.Name xv p1)) p6.line (O0 S)=pure false)
  (y:Gd [.Name xv p1] (.Call (.Name (oS "int") p2) [.Name xv p3,.Constant (.int 10) i p4] [] p5) (O0 S)=pure none)
  (s3:Fo (.Constant (.int 100) a p8) (some (.Name xt p7)) p9.line (O0 S)=pure false)(s4:Gd [.Name xt p7] (.Constant (.int 100) a p8) (O0 S)=pure none)
  (s5:Fo (.Call (.Attribute (.Name D p12) (oS "get") p13) [.Name xv p14,.Constant (.int 0) n3 p15] [] p16) (some (.Name xt p11)) p17.line (O0 S)=pure false)
  (s6:Gd [.Name xt p11] (.Call (.Attribute (.Name D p12) (oS "get") p13) [.Name xv p14,.Constant (.int 0) n3 p15] [] p16) (O0 S)=pure none):
  SXC c k S (exec (.Try [.Assign [.Name xv p1] (.Call (.Name (oS "int") p2) [.Name xv p3,.Constant (.int 10) i p4] [] p5) p6,.Assign [.Name xt p7] (.Constant (.int 100) a p8) p9]
   [.ExceptHandler (some (.Name (oS "ValueError") p10)) none [.Assign [.Name xt p11] (.Call (.Attribute (.Name D p12) (oS "get") p13) [.Name xv p14,.Constant (.int 0) n3 p15] [] p16) p17] p18] [] [] p19)) (Um M q tb):=by
 intro A G g s B Z J V fl V' Z' Q E l T e X;have P:=l.1;refine Aw e fun m em e=>Aw e fun x ex e=>?_;rw[MV.s_i ex] at em
 ·have R:=A0g em;have w:=(Am e).1;replace e:=(Am e).2;obtain⟨N,L⟩:=A1q w;refine A2s ?_;refine F1 ?_;refine Qn ?_ (A7j T.kind T.sc s1) (by rw[Gr T.kind T.sc];exact y);refine Ali ?_;refine Fi (Dp T.kind (by show G.scope.names.lookup _=_;rw[T.sc];exact H) (Hi (by rw[T.glob];exact T.top.top.g.keeps T.keep) hmi (by rw[T.blt];exact T.top.top.b.keeps T.keep) hbi ?_)) (by decide);refine Xs rfl (Dr rfl ?_);refine Jf (Fi (T.read F R hcv fun v r=>?_) hdv);refine Jf ?_;refine Alz ?_;refine O7 ?_;have U:Ev g s B g {s with toks:=s.toks+1} B:=T.tk _;obtain⟨t,rfl⟩:=r.pl;cases K:PySem.intText? x with
  |some n=>
   rw[K] at e;replace X:=X.cast e;refine M5 (Amo (s:={s with toks:=s.toks+1}) N K ?_);dsimp only;refine Wi F hvk A G g _ B _ J V _ (.int n (s.toks+1)) _ _ _ _ P ((T.toks (s.toks+1)).toks (s.toks+1+1)) (.p (.int n _)) rfl fun b p C O o=>?_;refine M5 (Ag ?_);refine Mp ?_ (A7j T.kind T.sc s3) (by rw[Gr T.kind T.sc];exact s4);refine Alz ?_;refine Wi d j A G b _ C _ J _ _ (.int 100 p.toks) _ _ _ _ P (o.toks (p.toks+1)) (.p (.int 100 _)) rfl fun gd sd B4z f T4z=>?_;refine Al ?_;refine Al (X gd sd B4z _ ?_ T4z .next);exact((T.tk _).trans O).trans ((o.tk _).trans f)
  |none=>
   rw[K] at e;replace X:=X.cast e;refine Aje (s:={s with toks:=s.toks+1}) P.hh N L K fun h' tk e hk hnew hob=>?_;refine(T.toks (s.toks+1)).catch l hk hnew hob PySem.F.isExc_ValueError PySem.F.notTuple_ValueError (by rw[J9];kernel_rfl) (fun A E h s' z Q hq=>?_) fun h s' E' ev' z=>?_
   ·exact Fi (Dp z.kind (by show G.scope.names.lookup _=_;rw[z.sc];exact hE) (Hi (by rw[z.glob];exact z.top.top.g.keeps z.keep) hmE (by rw[z.blt];exact z.top.top.b.keeps z.keep) hbE hq)) (by decide)
   ·refine Ag ?_;refine Mp ?_ (A7j T.kind T.sc s5) (by rw[Gr T.kind T.sc];exact s6);refine Aoe z F R hD hmD u hdv hcv hdD Y fun tk t=>?_;refine Ag (Df (Atc ((z.toks tk).store d j (.p (.int _ t)) fun s5z I W=>?_)));exact Al (X _ _ _ _ ((U.trans ev').trans ((z.tk tk).trans I)) W .next)
theorem Azs {op:CmpOp}{l r:Expr}{pos:Pos}{f:MV->MV->Mu->Option (MV×Mu)}{a b:EM}(M:SE c k S l a)(Y:SEC c k S r b)(O:O2 c k (Gu op) f)(z:Ayv op r=false):SEC c k S (.Compare l [op] [r] pos) (bE f a b):=by
 intro A G g s B Z J V d Z' Q E P T e h;refine Aa fun n=>?_;refine exe4 (Wr e) fun x t y X zw3=>?_;obtain⟨W,D,N⟩:=zw3;refine n ?_;rw[eval_Compare1,markedBehindIn_of_false z];refine B8 (M A G g s B Z J V x t _ E P T W fun U s1z L v K I F=>?_);refine F1 (Zu (Y A G U s1z L t J V y X _ E P I D fun gb j q w i H rb=>?_));refine B8 (Df (M5 fun Γ p hΓ=>?_));rw[Sem.wp_operate];exact O S A G gb j q X J V x y v w d Z' Q E P H (F.up i.up i.pre) rb N (fun gc m C u R o rc=>h gc m C u ((K.trans i).trans R) o rc) Γ p hΓ
theorem At7 {e:Expr}{i:Bbo}{pos:Pos}{a:EM}(M:SEC c k S e a):SEC c k S (.BoolOp i [e] pos) a:=by
 intro A G g s B Z J V d Z' Q E P T K X;exact M A G g s B Z J V d Z' Q E P T K X
theorem Azr {l m:Expr}{rest:List Expr}{pos:Pos}{a b:EM}(M:SE c k S l a)(Y:SEC c k S (.BoolOp .And (m::rest) pos) b):SEC c k S (.BoolOp .And (l::m::rest) pos) (Z0 a b):=by
 intro A G g s B Z J V d Z' Q E P T e X;refine Aw e fun z W e=>?_;refine Aw e fun t D e=>?_;show wpC c.M A (do
  let v<-eval l G
  Aik pos
  let c<-holding [v] (truthy v)
  match BoolOp.And,c with
  | .And,false| .Or,true=>pure v
  |_,_=>boolOp pos .And (eval m G::evalEach rest G)) Q E s
 refine B8 (M A G g s B Z J V z.1 z.2 _ E P T W fun u s1z L v K I F=>?_);refine B8 (Df (B8 (Ci (Xl D F fun tk=>?_))));cases t with
 |true=>
  exact Y A G u _ L z.2 J V d Z' Q E P (I.toks tk) e fun gb j q w i H h=>X gb j q w ((K.trans (I.tk tk)).trans i) H h
 |false=>
  replace X:=X.cast e;exact Ey (X u _ L v (K.trans (I.tk tk)) (I.toks tk) F)
end
end
section
noncomputable def KR (lt:Nat->Nat->Bool)(n:Nat){u:Type}:KasT u->u->Prop
 | .ret a,b=>a=b
 | .ask i j k,b=>i<n/\j<n/\KR lt n (k (lt i j)) b
theorem KR.bind {lt:Nat->Nat->Bool}{n:Nat}{u d:Type}{f:u->KasT d}{a:u}{b:d}(O:KR lt n (f a) b):∀{t:KasT u},KR lt n t a->KR lt n (t.bind f) b
 | .ret _,h=>by cases h;exact O
 | .ask i j k,⟨h,h',c⟩=>⟨h,h',KR.bind O c⟩
theorem KR.wp {lt:Nat->Nat->Bool}{n:Nat}{u:Type}{c:Nat->Nat->(Bool->Ad->Prop)->Ad->Prop}{Inv:Ad->Prop}{Q:u->Ad->Prop}{a:u}
  (L:∀i j (C:Bool->Ad->Prop) s,i<n->j<n->Inv s->(∀s',Inv s'->C (lt i j) s')->c i j C s)(X:∀s,Inv s->Q a s):∀{t:KasT u} {s:Ad},KR lt n t a->Inv s->t.kasWp c Q s
 | .ret _,s,h,l=>by cases h;exact X s l
 | .ask i j k,s,⟨U,O,w⟩,l=>L i j _ s U O l fun s' g=>KR.wp L X w g
structure A9g (lt:Nat->Nat->Bool)(n:Nat):Prop where
 trans:∀i j k,i<n->j<n->k<n->lt i j=true->lt j k=true->lt i k=true
 total:∀i j,i<n->j<n->i≠j->lt i j=true\/lt j i=true
 asym:∀i j,i<n->j<n->lt i j=true->lt j i=false
structure Hc (n:Nat)(p:Array Nat):Prop where
 perm:p.toList.Perm (Gb n)
theorem Hc.size {n:Nat}{p:Array Nat}(h:Hc n p):p.size=n:=by have:=h.perm.length_eq;simpa using this
theorem Hc.lt {n:Nat}{p:Array Nat}(h:Hc n p)(K:0<n)(i:Nat):p.getD i 0<n:=by
 by_cases H:i<p.size
 ·have:p.getD i 0∈p.toList:=by simp[Q5,H]
  simpa using h.perm.mem_iff.mp this
 ·simp[Q5,H,K]
theorem Hc.inj {n:Nat}{p:Array Nat}(h:Hc n p){i j:Nat}(H:i<n)(E:j<n)(e:p.getD i 0=p.getD j 0):i=j:=by
 have A:p.toList.Nodup:=h.perm.nodup_iff.mpr List.nodup_range;have K:p.toList[i]'(by simpa[h.size] using H)=p.toList[j]'(by simpa[h.size] using E):=by simpa[Q5,h.size,H,E] using e
 exact(A4k A).mp K
theorem Hc.of {n:Nat}{p q:Array Nat}(h:Hc n p)(hq:q.Perm p):Hc n q:=⟨(Array.perm_iff_toList_perm.mp hq).trans h.perm⟩
noncomputable def Srt (lt:Nat->Nat->Bool)(p:Array Nat)(m:Nat):Prop:=∀i j,i<j->j<m->lt (p.getD i 0) (p.getD j 0)=true
section
variable {lt:Nat->Nat->Bool}{n:Nat}(L:A9g lt n)(hn:0<n)
include L hn
theorem Srt.snoc {p:Array Nat}(I:Hc n p){m:Nat}(h:Srt lt p m)(z:1<=m)(N:lt (p.getD (m-1) 0) (p.getD m 0)=true):Srt lt p (m+1):=fun i j J E=>by
 by_cases e:j=m
 ·subst e;by_cases K:i=j-1
  ·rw[K];exact N
  ·exact L.trans _ _ _ (I.lt hn _) (I.lt hn _) (I.lt hn _) (h i (j-1) (Ea (I6 J) K) (Ki (by decide) z)) N
 ·exact h i j J (Ea (Ai E) e)
theorem not_lt {p:Array Nat}(I:Hc n p){i j:Nat}(H:i<n)(E:j<n)(J:i≠j)(h:lt (p.getD i 0) (p.getD j 0)=false):lt (p.getD j 0) (p.getD i 0)=true:=by
 rcases L.total _ _ (I.lt hn i) (I.lt hn j) (fun e=>J (I.inj H E e)) with h'|h'
 ·exact nomatch h.symm.trans h'
 ·exact h'
theorem Ag5 {p:Array Nat}(I:Hc n p):∀(f m:Nat),1<=m->m+f<=n->Srt lt p m->∃m',KR lt n (kas_asc p f m) m'/\m<=m'/\m'<=m+f/\Srt lt p m'/\(m'<m+f->lt (p.getD m' 0) (p.getD (m'-1) 0)=true)
 |0,m,U,O,l=>⟨m,rfl,At _,At _,l,fun h=>absurd h (absurd (by assumption) (Em _))⟩
 |f+1,m,U,O,l=>by
  cases N:lt (p.getD m 0) (p.getD (m-1) 0) with
  |true=>exact⟨m,⟨I.lt hn _,I.lt hn _,by rw[N];rfl⟩,At _,(Bl _ _),l,fun _=>N⟩
  |false=>
   have c:=not_lt L hn I (Abb O) (Aum U O) (Ga (Ki (by decide) U)) N;refine Aa fun C=>?_;obtain⟨m',u,B,Y,H,a⟩:=Ag5 I f (m+1) (El (by assumption)) (Aba O) (l.snoc L hn I U c);refine C ?_;exact⟨m',⟨I.lt hn _,I.lt hn _,by rw[N];exact u⟩,(Ba (by assumption)),Ab Y (Aj (Ai9 m f)),H,fun h=>a (Ay h (Aj (Ai9 m f).symm))⟩
noncomputable def Fal (lt:Nat->Nat->Bool)(p:Array Nat)(m:Nat):Prop:=∀i j,i<j->j<m->lt (p.getD j 0) (p.getD i 0)=true
theorem Fal.snoc {p:Array Nat}(I:Hc n p){m:Nat}(h:Fal lt p m)(z:1<=m)(N:lt (p.getD m 0) (p.getD (m-1) 0)=true):Fal lt p (m+1):=fun i j J E=>by
 by_cases e:j=m
 ·subst e;by_cases K:i=j-1
  ·rw[K];exact N
  ·exact L.trans _ _ _ (I.lt hn _) (I.lt hn _) (I.lt hn _) N (h i (j-1) (Ea (I6 J) K) (Ki (by decide) z))
 ·exact h i j J (Ea (Ai E) e)
theorem Ajm {p:Array Nat}(I:Hc n p):∀(f m:Nat),1<=m->m+f<=n->Fal lt p m->∃m',KR lt n (kas_desc f p m 0) (p,m',0)/\m<=m'/\m'<=m+f/\Fal lt p m'
 |0,m,U,O,l=>⟨m,rfl,At _,At _,l⟩
 |f+1,m,U,O,l=>by
  cases N:lt (p.getD m 0) (p.getD (m-1) 0) with
  |false=>
   have c:=not_lt L hn I (Abb O) (Aum U O) (Ga (Ki (by decide) U)) N;refine⟨m,⟨I.lt hn _,I.lt hn _,?_⟩,At _,(Bl _ _),l⟩;rw[N];exact⟨I.lt hn _,I.lt hn _,by rw[c];rfl⟩
  |true=>
   refine Aa fun X=>?_;obtain⟨m',u,B,Y,H⟩:=Ajm I f (m+1) (El U) (Aba O) (l.snoc L hn I U N);refine X ?_;exact⟨m',⟨I.lt hn _,I.lt hn _,by rw[N];exact u⟩,(Ba (by assumption)),Ab Y (Aj (Ai9 m f)),H⟩
theorem Ap9 {p:Array Nat}{m:Nat}(z:m<=p.size)(k:Nat):(Aq2 p 0 m).getD k 0=if k<m then p.getD (m-1-k) 0 else p.getD k 0:=by
 unfold Aq2;have h:=getElem?_mirror (xs:=p) (i:=0) (j:=m) z ((m-0)/2) (Bbn _ _) k;rw[Dq,h];by_cases hk:k<m
 ·rw[if_pos hk];by_cases L:(0<=k/\k<0+(m-0)/2)\/(m-(m-0)/2<=k/\k<m)
  ·rw[if_pos L,Dq,show 0+m-1-k=m-1-k by lia]
  ·rw[if_neg L,Dq,show m-1-k=k from A5g hk L]
 ·rw[if_neg hk,if_neg (A5h hk),Dq]
theorem A7d {p:Array Nat}(I:Hc n p)(m:Nat):Hc n (Aq2 p 0 m):=I.of (mirror_perm _ _ _ _)
theorem A1z {p:Array Nat}(I:Hc n p){m:Nat}(z:m<=n)(h:Fal lt p m):Srt lt (Aq2 p 0 m) m:=fun i j J E=>by
 have hz:=I.size;rw[Ap9 L hn (by omega),Ap9 L hn (by omega),if_pos (Cv J E),if_pos E];exact h _ _ (Ag2 J (I6 E)) (Ah (Dy _ _) (Nat.sub_lt (Hx E) (by decide)))
theorem Arc {p:Array Nat}(I:Hc n p)(O:2<=n):∃m q,KR lt n (kas_count n p) (m,q)/\Hc n q/\1<=m/\m<=n/\Srt lt q m:=by
 have s1:Srt lt p 1:=fun i j U O=>absurd O (C0 (Ft (Hx U)));refine Aa fun P=>?_;obtain⟨m,u,B,Y,H,a⟩:=Ag5 L hn I (n-1) 1 (At _) (Ot (Hx hn) (Aj rfl)) s1;refine P ?_;by_cases e:m=n
 ·refine exi2 m p ⟨KR.bind ?_ u,I,B,(Aj e),H⟩;rw[if_pos (by simpa using e)];rfl
 ·by_cases U:m>1
  ·refine exi2 m p ⟨KR.bind ?_ u,I,B,Ab Y (Aj (C8 (N9 O))),H⟩;rw[if_neg (by simpa using e),if_pos U];refine⟨I.lt hn _,I.lt hn _,?_⟩;rw[H 0 (m-1) (I6 (by assumption)) (Ki (by decide) B)];rfl
  ·have z:m=1:=(Eh (Cq U) B);refine Aa fun y=>?_;subst z;have N:=a (T8 (Oa O));have A:Fal lt p 2:=fun i j J E=>by
    have:i=0:=Rx.mp (Ay J (Ai E));have:j=1:=(Eh (Ai E) (Hx J));subst i j;exact N
   obtain⟨m',w,c,g,l⟩:=Ajm L hn I (n-2) 2 (El (by assumption)) (Aj (C8 O)) A;have hq:=A7d L hn I m';obtain⟨b,v,k,d,o,_⟩:=Ag5 L hn hq (n-m') m' (Ba (by assumption)) (Aj (C8 (Aul O g))) (A1z L hn I (Aul O g) l);refine y ?_;refine exi2 b (Aq2 p 0 m') ⟨KR.bind ?_ u,hq,(Ba (Ab c k)),Ab d (Aj (C8 (Aul O g))),o⟩;rw[if_neg (by simpa using e),if_neg U];refine KR.bind ?_ w;dsimp only;exact KR.bind (f:=fun m=>KasT.ret (m,Aq2 p 0 m')) rfl v
theorem Yy {p:Array Nat}(I:Hc n p){k:Nat}(hk:k<n)(M:Srt lt p k):∀(f l r:Nat),l<=r->r<=k->r-l<=f->(∀i,i<l->lt (p.getD i 0) (p.getD k 0)=true)->(∀i,r<=i->i<k->lt (p.getD k 0) (p.getD i 0)=true)->
  ∃m,KR lt n (kas_place p k f l r) m/\m<=k/\(∀i,i<m->lt (p.getD i 0) (p.getD k 0)=true)/\(∀i,m<=i->i<k->lt (p.getD k 0) (p.getD i 0)=true)
 |0,l,r,U,O,C,N,j=>by
  have:l=r:=(Auq (Nat.eq_zero_of_le_zero C) U);subst this;exact⟨l,rfl,O,N,j⟩
 |f+1,l,r,U,O,C,N,j=>by
  unfold kas_place;by_cases e:l≥r
  ·have:l=r:=(Eh U e);subst this;exact⟨l,by rw[if_pos e];rfl,O,N,j⟩
  ·rw[if_neg e];have h:(l+r)/2<k:=A92 (Jl (by assumption)) (by assumption);cases u:lt (p.getD k 0) (p.getD ((l+r)/2) 0) with
   |true=>
    refine Aa fun z=>?_;obtain⟨m,q1,q2⟩:=Yy I hk M f l ((l+r)/2) (Ami U) (Ba (by assumption)) (A9x C (Jl e)) N fun i H b=>by
     by_cases K:i=(l+r)/2
     ·rw[K];exact u
     ·exact L.trans _ _ _ (I.lt hn _) (I.lt hn _) (I.lt hn _) u (M _ _ (Vi H K) b)
    exact z ⟨m,⟨I.lt hn _,I.lt hn _,by rw[u];exact q1⟩,q2⟩
   |false=>
    have a:=not_lt L hn I hk (Cv h hk) (Ga (by assumption)) u;obtain⟨m,q1,q2⟩:=Yy I hk M f ((l+r)/2+1) r (Aou (Jl e)) O (A9y C (Jl e)) (fun i H=>by
     by_cases K:i=(l+r)/2
     ·rw[K];exact a
     ·exact L.trans _ _ _ (I.lt hn _) (I.lt hn _) (I.lt hn _) (M i _ (Ea (Ai H) K) h) a) j
    exact⟨m,⟨I.lt hn _,I.lt hn _,by rw[u];exact q1⟩,q2⟩
theorem Ao0 {p:Array Nat}{k m:Nat}(hk:k<p.size)(z:m<=k)(i:Nat):(bubble p k (k-m)).getD i 0=if i=m then p.getD k 0 else if m<i/\i<=k then p.getD (i-1) 0 else p.getD i 0:=by
 rw[Dq,getElem?_bubble hk (k-m) (Dy _ _) i,show k-(k-m)=m from(A8g z)];by_cases U:i=m
 ·rw[if_pos U,if_pos U,Dq]
 ·rw[if_neg U,if_neg U];by_cases O:m<i/\i<=k
  ·rw[if_pos O,if_pos O,Dq]
  ·rw[if_neg O,if_neg O,Dq]
theorem A0h {p:Array Nat}(I:Hc n p){k m:Nat}(hk:k<n)(z:m<=k)(l:Srt lt p k)(U:∀i,i<m->lt (p.getD i 0) (p.getD k 0)=true)(O:∀i,m<=i->i<k->lt (p.getD k 0) (p.getD i 0)=true):Srt lt (bubble p k (k-m)) (k+1):=fun i j J E=>by
 have hz:=I.size;rw[Ao0 L hn (hz.symm▸hk) z,Ao0 L hn (hz.symm▸hk) z];by_cases N:i=m
 ·rw[if_pos N,if_neg (Ga (N▸J)),if_pos ⟨N▸J,Ai E⟩];exact O _ (I6 (N▸J)) (Xy (Hx J) (Ai E))
 ·rw[if_neg N];by_cases e:j=m
  ·rw[if_pos e,if_neg (fun q=>Nat.lt_asymm q.1 (e▸J))];exact U i (Ay J (Aj e))
  ·rw[if_neg e];by_cases ci:m<i/\i<=k
   ·rw[if_pos ci,if_pos ⟨(Cv ci.1 J),(Ai E)⟩];exact l _ _ (Ayr (Hx ci.1) J) (Xy (Hx J) (Ai E))
   ·rw[if_neg ci];by_cases c:m<j/\j<=k
    ·rw[if_pos c];exact l _ _ (Ay (Ea (Cq fun q=>ci ⟨q,Ba (Ay J c.2)⟩) N) (I6 c.1)) (Xy (Hx J) c.2)
    ·rw[if_neg c];exact l _ _ J (Ay (Ea (Cq fun q=>c ⟨q,Ai E⟩) e) z)
theorem Aox:∀(f k:Nat) {p:Array Nat},Hc n p->k+f=n->Srt lt p k->∃q,KR lt n (kas_bin f p k) q/\Hc n q/\Srt lt q n
 |0,k,p,I,hk,M=>⟨p,rfl,I,by rw[<-hk];exact M⟩
 |f+1,k,p,I,hk,M=>by
  refine Aa fun C=>?_;obtain⟨m,q1,q2,q3,T⟩:=Yy L hn I (k:=k) (Amj hk) M k 0 k (Cb _) (At _) (At _) (fun i h=>absurd h (Vc _)) (fun i U O=>absurd U (Ry.mpr (by assumption)));obtain⟨q,D,z,N⟩:=Aox f (k+1) (I.of (bubble_perm p k (k-m))) (A3o hk) (A0h L hn I (Amj hk) q2 M q3 T);refine C ?_;exact⟨q,KR.bind (f:=fun l=>kas_bin f (bubble p k (k-l)) (k+1)) D q1,z,N⟩
theorem Axk (O:2<=n):∃q,KR lt n (kas_sort n) q/\Hc n q/\Srt lt q n:=by
 have I:Hc n (List.toArray (Gb n)):=⟨by rfl⟩;refine Aa fun t=>?_;refine exe2 (Arc L hn I O) fun m p b=>?_;obtain⟨o,B,s,v,c⟩:=b;refine t ?_;by_cases h:m<n
 ·refine Aa fun j=>?_;obtain⟨q,D,z,N⟩:=Aox L hn (n-max m 1) (max m 1) B (N7 (A24.mpr ⟨Ba (by assumption),hn⟩)) (by rw[Nat.max_eq_left s];exact c);exact j ⟨q,KR.bind (by dsimp only;rw[if_pos h];exact D) o,z,N⟩
 ·have:m=n:=(Eh v (Cq h));subst this;exact⟨p,KR.bind (by dsimp only;rw[if_neg h];rfl) o,B,c⟩
end
end
section
open PySem.SeqAt (EqAt)
noncomputable def Azf (A:Bs)(s:Ad)(x y:Ac)(b:Bool):Prop:=
 ∀(prog:Ia)(w:F7)(Q:Ac->Ad->Prop)(E:Ac->Ad->Prop),Q (.bool b) s->A1 (model prog w) A (richCompare .Lt x y) Q E s
inductive We (A:Bs)(s:Ad):List Ac->List Ac->Bool->Prop
 |nil {ys:List Ac}:We A s [] ys (decide (0<ys.length))
 |nil2 {x:Ac}{xs:List Ac}:We A s (x::xs) [] false
 |eq {x y:Ac}{xs ys:List Ac}{r:Bool}:EqAt A s x y true->We A s xs ys r->We A s (x::xs) (y::ys) r
 |ne {x y:Ac}{xs ys:List Ac}{r:Bool}:EqAt A s x y false->Azf A s x y r->We A s (x::xs) (y::ys) r
open PySem.MeetsSeq PySem.MeetsSeq2 PySem.MeetsSeq3 PySem.SeqRoads2 in
theorem A1e (l b:Addr)(items a:Array Ac)(n C:Nat)(E e:Option Addr)(sl m:Array (Option Ac))(k:Nat):
  ∀i:Nat,items.size-i=k->i<=items.size->i<=a.size->Ay6 (Builtin.«list.__eq__.loop» ⟨[.ref l,.ref b,Hb i,Hb 0],[]⟩)
   (fun A R s=>s.heap.get? l=some {cls:=.type "list",dict:=E,data:=.seq items n,slots:=sl}∧s.heap.get? b=some {cls:=.type "list",dict:=e,data:=.seq a C,slots:=m}∧
    ∃r,We A.in1 s (items.toList.drop i) (a.toList.drop i) r/\R (.ok (.ret (.bool r))) s):=by
 induction k with
 |zero=>
  intro i hk f o prog w A R s h;obtain⟨I,g,d,tk,p⟩:=s;obtain⟨N,Y,r,j,h⟩:=h
  wp_walk using Cf N,Cf Y
  have W:items[((i:Nat):Int).toNat]?=none:=by simp;exact Dm hk
  have hd:items.toList.drop i=[]:=by simp;exact Dm hk
  rw[hd] at j;rw[W]
  wp_walk using Cf N,Cf Y
  cases j with
  |nil=>
   show R (.ok (.ret (.bool (decide (items.size<a.size))))) _;have:decide (items.size<a.size)=decide (0<(a.toList.drop i).length):=by rw[D0,P4,Auq hk f];exact decide_eq_decide.mpr Nat.sub_pos_iff_lt.symm
   rw[this];exact h
 |succ k J=>
  intro i hk f o prog w A R s h;obtain⟨I,g,d,tk,p⟩:=s;obtain⟨N,Y,r,j,h⟩:=h
  wp_walk using Cf N,Cf Y
  have M:i<items.size:=(Qd hk);have W:items[((i:Nat):Int).toNat]?=some items[i]:=by simp[M]
  have hd:items.toList.drop i=items[i]::items.toList.drop (i+1):=by simp[Cc,M]
  rw[hd] at j;rw[W];by_cases c:i<a.size
  ·have D:a[((i:Nat):Int).toNat]?=some a[i]:=by simp[c]
   have hd2:a.toList.drop i=a[i]::a.toList.drop (i+1):=by simp[Cc,c]
   rw[hd2] at j;rw[D];have L:((i:Int)+1)=((i+1:Nat):Int):=by push_cast;rfl
   cases j with
   |eq U O=>
    refine Ag (U prog w _ _ ?_)
    wp_walk
    exact⟨M7 plain_eq_loop _,Nj entry_eq_loop (by
     exact J (i+1) (Wp hk) (by assumption) (by assumption) prog w A R _ ⟨N,Y,r,O,h⟩)⟩
   |ne U O=>
    refine Ag (U prog w _ _ ?_)
    wp_walk using Cf N,Cf Y
    rw[W,D];refine Ag (O prog w _ _ ?_);exact Al h
  ·have D:a[((i:Nat):Int).toNat]?=none:=by simp;exact Cq c
   have hd2:a.toList.drop i=[]:=by simp;exact Cq c
   rw[hd2] at j;rw[D]
   wp_walk using Cf N,Cf Y
   cases j;show R (.ok (.ret (.bool (decide (items.size<a.size))))) _;have:decide (items.size<a.size)=false:=decide_eq_false (Als.mpr (Ab (Cq c) (Ba M)));rw[this];exact h
open PySem.MeetsSeq PySem.MeetsSeq2 PySem.MeetsSeq3 PySem.SeqRoads2 in
theorem A1c (l b:Addr)(items a:Array Ac)(n C:Nat)(E e:Option Addr)(sl m:Array (Option Ac)):
  Ay6 (Builtin.«list.__lt__» ⟨[.ref l,.ref b],[]⟩)
   (fun A R s=>s.heap.get? l=some {cls:=.type "list",dict:=E,data:=.seq items n,slots:=sl}∧s.heap.get? b=some {cls:=.type "list",dict:=e,data:=.seq a C,slots:=m}∧
    ∃r,We A.in1 s items.toList a.toList r/\R (.ok (.ret (.bool r))) s):=by
 intro prog w A R s h;refine Aa fun P=>?_;obtain⟨N,Y,r,j,h⟩:=h;refine P ?_;have B:=AutoSeq1.sub_list_list
 wp_walk using Cf N,Cf Y
 exact⟨M7 plain_eq_loop _,Nj entry_eq_loop (by
  exact A1e l b items a n C E e sl m _ 0 rfl (Cb _) (Cb _) prog w A R _ ⟨N,Y,r,j,h⟩)⟩
section
variable {prog:Ia}{w:F7}{A:Bs}{E:Ac->Ad->Prop}{s:Ad}
theorem A6f {l b:Addr}{items a:Array Ac}{n C:Nat}{Q:Bool->Ad->Prop}{r:Bool}(g:A.units<cLine)(N:IsL s.heap l items n)(Y:IsL s.heap b a C)
  (j:∀A,We A s items.toList a.toList r)(h:Q r s):A1 (model prog w) A (keyLt' oneType' (.ref l) (.ref b)) Q E s:=by
 rw[keyLt'_oneType,oneLt'_eq];dsimp only[if_true];refine Ag (wpAny_cRoomFor g ?_);refine Ag (wpAny_callSpecialIfBound?_slot ⟨_,N,rfl⟩ PySem.F.slot_list_lt (P8 PySem.F.slot_list_lt ⟨_,N,rfl⟩ PySem.F.entry_list_lt (PySem.F.args_list_lt_2 _ _) (A1c l b items a n C none none #[] #[]) ⟨N,Y,r,j _,?_⟩))
 exact wpAny_truthy_bool h
end
end
section
section
variable {prog:Ia}{w:F7}{A:Bs}{E:Ac->Ad->Prop}{s:Ad}{a:Addr}{vs:List Ac}
theorem Any {n:Nat}{P:PySem.Fin→Ad→Prop}(y:s.heap.get? a=some (J7 "list" vs.toArray n))(U:vs.length<2)
  (h:∀h' c,(∀b o,b≠a→s.heap.get? b=some o→h'.get? b=some o)→h'.get? a=some (J7 "list" vs.toArray c)→P (.done (.ret .none)) {s with heap:=h'}):
  A1 (model prog w) A (Builtin.«list.sort» ⟨[.ref a],[]⟩) P E s:=by
 obtain⟨W,g⟩:∃W,(s.heap.update a (Fp fun _=>(#[]:Array Ac))).get? a=some (J7 "list" #[] W):=⟨_,get?_update_seq y fun _=> #[]⟩
 have f:(((s.heap.update a (Fp fun _=>(#[]:Array Ac))).push (J7 "tuple" vs.toArray 0)).push (J7 "list" #[] 0)).get? a=some (J7 "list" #[] W):=J2 _ (J2 _ g)
 rw[list_sort_plain];refine Ag (listItems_at y rfl ?_);refine Ag (listUpdate_at y rfl ?_ (by rw[D4,C7];exact Ab (Ai U) (by decide)) (Cb _));refine Ag (seqEpoch_at g rfl ?_);refine Ag (wpAny_newTuple ?_ (by show vs.length<=_;rw[C7];exact Ab (Ai U) (by decide)));refine Ag (Adp ?_ (Cb _));refine Ci ?_;show A1 (model prog w) A _ P E {s with heap:=((s.heap.update a (Fp fun _=>(#[]:Array Ac))).push (J7 "tuple" vs.toArray 0)).push (J7 "list" #[] 0)}
 have i:vs.toArray.size<2:=by rw[D4];exact U
 rw[if_pos i,if_pos i];refine Ag (Al ?_);refine Ag (Al ?_);dsimp only;refine Ag (seqEpoch_at f rfl ?_);have d:(arrOf (SortSt.mk' general' (vs.toArray.zip vs.toArray) #[] 7 none)).map (·.2)=vs.toArray:=by
  apply Oj.mp;rw[Array.toList_map,Array.toList_zip,List.map_snd_zip (by simp)]
 rw[d];refine Ag (listUpdate_at f rfl ?_ (Cb _) (by rw[D4,C7];exact Ab (Ai U) (by decide)));rw[if_neg (by simp)];obtain⟨B,j⟩:∃B,((((s.heap.update a (Fp fun _=>(#[]:Array Ac))).push (J7 "tuple" vs.toArray 0)).push (J7 "list" #[] 0)).update a (Fp fun _=>vs.toArray)).get? a=some (J7 "list" vs.toArray B):=⟨_,get?_update_seq f fun _=>vs.toArray⟩
 refine Al (h _ B (fun b o Y e=>?_) j);refine((Es ..).2 b Y).trans (J2 _ (J2 _ (((Es ..).2 b Y).trans e)))
theorem Ah5 {l:Addr}{Q:Ac->Ad->Prop}(N:s.heap.IsList l vs.toArray)(U:vs.length<2)
  (h:∀D c h',s.heap.get? D=none→(∀b o,s.heap.get? b=some o→h'.get? b=some o)→h'.get? D=some (J7 "list" vs.toArray c)→Q (.ref D) {s with heap:=h'}):
  A1 (model prog w) A (call (.builtin "sorted") [.ref l]) Q E s:=by
 refine Calls.call_function_entry kind_sorted plain_sorted entry_sorted (args_sorted1 _) ?_;refine Ag (m:=checkCount "sorted" 1 1 _) (Al ?_);refine Ag (collect_list N ?_ (by rw[C7];exact Ab (Ai U) (by decide)));refine Ag (Adp ?_ (by rw[C7];exact Ab (Ai U) (by decide)));have i:((s.heap.push (J7 "list" #[] 0)).update s.heap.objs.size (Fp (·++vs.toArray))).objs.size=s.heap.objs.size+1:=by
  rw[Heap.size_update,size_push']
 have a:(((s.heap.push (J7 "list" #[] 0)).update s.heap.objs.size (Fp (·++vs.toArray))).push (J7 "list" vs.toArray 0)).get? (s.heap.objs.size+1)=some (J7 "list" vs.toArray 0):=by
  rw[<-i];exact Cy _ rfl
 have k:∀b o,s.heap.get? b=some o→(((s.heap.push (J7 "list" #[] 0)).update s.heap.objs.size (Fp (·++vs.toArray))).push (J7 "list" vs.toArray 0)).get? b=some o:=fun b o q=>by
  have M:b<s.heap.objs.size:=D5 q;rw[A27 _ _ _ (by rw[i];exact J6 (Sx M)),Ayx _ _ _ _ (J6 M),A27 _ _ _ (J6 M)];exact q
 show A1 _ _ _ _ _ {s with heap:=((s.heap.push (J7 "list" #[] 0)).update s.heap.objs.size (Fp (·++vs.toArray))).push (J7 "list" vs.toArray 0)}
 rw[i];refine Ag (Ci (V9 slot_list_sort ⟨_,a,rfl⟩ entry_list_sort ?body (args_list_sort _)))
 case body=>
  refine Any (s:={s with heap:=((s.heap.push (J7 "list" #[] 0)).update s.heap.objs.size (Fp (·++vs.toArray))).push (J7 "list" vs.toArray 0)}) a U fun h' c hk L=>?_
  refine⟨_,rfl,Al ⟨_,rfl,h _ c h' ?_ (fun b o e=>hk b o (J6 (Sx (D5 e))) (k b o e)) L⟩⟩;exact Heap.get?_none_of_le (J1 _)
end
end
section
open PySem.SeqAt (EqAt)
inductive OC:PV->PV->Ordering->Prop
 |ie (a:Int):OC (.int a) (.int a) .eq
 |il {a b:Int}:a<b->OC (.int a) (.int b) .lt
 |ig {a b:Int}:b<a->OC (.int a) (.int b) .gt
 |se (a:Str):OC (.str a) (.str a) .eq
 |sl {a b:Str}:a.cps.toList<b.cps.toList->OC (.str a) (.str b) .lt
 |sg {a b:Str}:b.cps.toList<a.cps.toList->OC (.str a) (.str b) .gt
noncomputable def scI (a b:Int):Ordering:=if a=b then .eq else if a<b then .lt else .gt
noncomputable def scS (a b:Str):Ordering:=if a=b then .eq else if a.cps.toList<b.cps.toList then .lt else .gt
noncomputable def ocP (x y:PV):Option Ordering:=match x with
 | .int a=>(match y with
  | .int b=>some (scI a b)
  |_=>none)
 | .str a=>(match y with
  | .str b=>some (scS a b)
  |_=>none)
 |_=>none
noncomputable def Awt (o:Option Ordering)(r:Option Bool):Option Bool:=match o with
 |none=>none
 |some .lt=>some true
 |some .gt=>some false
 |some .eq=>r
noncomputable def ltL:List PV->List PV->Option Bool
 |[],ys=>some (decide (0<ys.length))
 |x::xs,ys=>match ys with
  |[]=>some false
  |y::ys=>Awt (ocP x y) (ltL xs ys)
noncomputable def ltK:PV->PV->Option Bool
 | .list a,.list b=>ltL a b
 |_,_=>none
theorem A14 {a b:Str}(h:a.cps.toList=b.cps.toList):a=b:=by
 cases a;cases b;simp only[Str.mk.injEq];exact Oj.mp h
theorem Ah1 (a b:Int):OC (.int a) (.int b) (scI a b):=by
 unfold scI;by_cases e:a=b
 ·rw[if_pos e];subst e;exact .ie a
 ·rw[if_neg e];by_cases h:a<b
  ·rw[if_pos h];exact .il h
  ·rw[if_neg h];exact .ig (by lia)
theorem Axg (a b:Str):OC (.str a) (.str b) (scS a b):=by
 unfold scS;by_cases e:a=b
 ·rw[if_pos e];subst e;exact .se a
 ·rw[if_neg e];by_cases h:a.cps.toList<b.cps.toList
  ·rw[if_pos h];exact .sl h
  ·rw[if_neg h];exact .sg (Aa fun h'=>e (A14 (List.le_antisymm (List.not_lt.mp h') (List.not_lt.mp h))))
theorem A7f {x y:PV}{o:Ordering}(h:ocP x y=some o):OC x y o:=by
 cases x with
 |int a=>cases y with
  |int b=>exact Af h▸Ah1 a b
  |_=>cases h
 |str a=>cases y with
  |str b=>exact Af h▸Axg a b
  |_=>cases h
 |_=>cases h
theorem OC.val {x y:PV}{o:Ordering}(h:OC x y o):ocP x y=some o:=by
 cases h with
 |ie a=>exact congrArg some (if_pos rfl)
 |il h=>exact congrArg some ((if_neg (Ast h)).trans (if_pos h))
 |ig h=>exact congrArg some ((if_neg (F9 h)).trans (if_neg (Int.lt_asymm h)))
 |se a=>exact congrArg some (if_pos rfl)
 |sl h=>exact congrArg some ((if_neg fun e=>Nh _ (e▸h)).trans (if_pos h))
 |sg h=>exact congrArg some ((if_neg fun e=>Nh _ (e▸h)).trans (if_neg (Bbl h)))
theorem OC.swap {x y:PV}{o:Ordering}(h:OC x y o):OC y x o.swap:=by
 cases h with
 |ie a=>exact .ie a
 |il h=>exact .ig h
 |ig h=>exact .il h
 |se a=>exact .se a
 |sl h=>exact .sg h
 |sg h=>exact .sl h
theorem OC.eq {x y:PV}(h:OC x y .eq):x=y:=by cases h<;>rfl
theorem OC.self {x:PV}{o:Ordering}(h:OC x x o):o=.eq:=by
 cases h with
 |ie a=>rfl
 |il h=>exact absurd h (Int.lt_irrefl _)
 |ig h=>exact absurd h (Int.lt_irrefl _)
 |se a=>rfl
 |sl h=>exact absurd h (Nh _)
 |sg h=>exact absurd h (Nh _)
theorem OC.trans {x y z:PV}(h:OC x y .lt)(h':OC y z .lt):OC x z .lt:=by
 cases h with
 |il h=>cases h' with
  |il h'=>exact .il (N4 h h')
 |sl h=>cases h' with
  |sl h'=>exact .sl (List.lt_trans h h')
theorem Ug {x y:PV}{xs ys:List PV}{r:Bool}(h:ltL (x::xs) (y::ys)=some r):∃o,OC x y o/\Awt (some o) (ltL xs ys)=some r:=by
 have h:Awt (ocP x y) (ltL xs ys)=some r:=h;cases e:ocP x y with
 |none=>rw[e] at h;cases h
 |some o=>rw[e] at h;exact⟨o,A7f e,h⟩
theorem Acd {x y:PV}{xs ys:List PV}{o:Ordering}(h:OC x y o):ltL (x::xs) (y::ys)=Awt (some o) (ltL xs ys):=congrArg (fun z=>Awt z (ltL xs ys)) h.val
theorem Pp {x y:PV}{xs ys:List PV}{o:Ordering}(h:OC x y o)(J:x=y->(ltL xs ys).isSome=true):(ltL (x::xs) (y::ys)).isSome=true:=by
 rw[Acd h];cases o with
 |lt=>rfl
 |gt=>rfl
 |eq=>exact J h.eq
theorem Ahs:∀{x y:List PV} {r:Bool},ltL x y=some r->(x=y/\r=false/\ltL y x=some false)\/(x≠y/\ltL y x=some (!r))
 |[],[],r,h=>.inl ⟨rfl,(Af h).symm,rfl⟩
 |[],_::_,r,h=>.inr ⟨(A4j _ _).symm,congrArg (fun b=>some (!b)) (Af h)⟩
 |_::_,[],r,h=>.inr ⟨A4j _ _,congrArg (fun b=>some (!b)) (Af h)⟩
 |x::xs,y::ys,r,h=>by
  refine Aa fun C=>?_;obtain⟨o,s,h⟩:=Ug h;refine C ?_;rw[Acd s.swap];cases o with
  |lt=>exact .inr ⟨fun e=>Ordering.noConfusion (OC.self ((Hw e).1▸s)),congrArg (fun b=>some (!b)) (Af h)⟩
  |gt=>exact .inr ⟨fun e=>Ordering.noConfusion (OC.self ((Hw e).1▸s)),congrArg (fun b=>some (!b)) (Af h)⟩
  |eq=>exact(Ahs (show ltL xs ys=some r from h)).imp (fun h=>⟨by rw[s.eq,h.1],h.2⟩) (fun h=>⟨fun e=>h.1 (Hw e).2,h.2⟩)
theorem Afn:∀{x y z:List PV},ltL x y=some true->ltL y z=some true->(ltL x z).isSome=true->ltL x z=some true
 |[],[],_,h1,_,_=>nomatch h1
 |[],_::_,[],_,h2,_=>nomatch h2
 |[],_::_,_::_,_,_,_=>rfl
 |_::_,[],_,h1,_,_=>nomatch h1
 |_::_,_::_,[],_,h2,_=>nomatch h2
 |x::xs,y::ys,z::zs,h1,h2,h3=>by
  obtain⟨o1,s1,h1⟩:=Ug h1;obtain⟨o2,s2,h2⟩:=Ug h2;cases o1 with
  |gt=>cases h1
  |lt=>cases o2 with
   |gt=>cases h2
   |lt=>exact Acd (s1.trans s2)
   |eq=>exact Acd (s2.eq▸s1)
  |eq=>
   rw[s1.eq] at h3 |-
   rw[Acd s2] at h3 |-
   cases o2 with
   |gt=>cases h2
   |lt=>rfl
   |eq=>exact Afn h1 h2 h3
theorem Ah2 {g:Heap}{A:Bs}{s:Ad}{x y:PV}{o:Ordering}(h:OC x y o){v w:Ac}(n:PR g x v)(H:PR g y w):EqAt A s v w (o==.eq):=by
 have I:∀{a b:Int} {c:Bool},PR g (.int a) v->PR g (.int b) w->(a==b)=c->EqAt A s v w c:=fun{a b c} n H e=>by
  obtain⟨t,rfl⟩:=n.inv;obtain⟨u,rfl⟩:=H.inv;exact e▸EqAt.int_int a t b u
 have S:∀{a b:Str} {c:Bool},PR g (.str a) v->PR g (.str b) w->(a==b)=c->EqAt A s v w c:=fun{a b c} n H e=>by
  obtain⟨t,rfl⟩:=n.inv;obtain⟨u,rfl⟩:=H.inv;exact e▸(eqGives_str a b t u).at A s
 cases h with
 |ie a=>exact I n H (beq_self_eq_true a)
 |il h=>exact I n H (beq_eq_false_iff_ne.mpr (Ast h))
 |ig h=>exact I n H (beq_eq_false_iff_ne.mpr (F9 h))
 |se a=>exact S n H (beq_self_eq_true a)
 |sl h=>exact S n H (beq_eq_false_iff_ne.mpr fun e=>Nh _ (e▸h))
 |sg h=>exact S n H (beq_eq_false_iff_ne.mpr fun e=>Nh _ (e▸h))
theorem Aqb {g:Heap}{A:Bs}{s:Ad}{x y:PV}{o:Ordering}(h:OC x y o)(W:o≠.eq){v w:Ac}(n:PR g x v)(H:PR g y w):Azf A s v w (o==.lt):=by
 have I:∀{a b:Int} {c:Bool},PR g (.int a) v->PR g (.int b) w->decide (a<b)=c->Azf A s v w c:=fun{a b c} n H e=>by
  obtain⟨t,rfl⟩:=n.inv;obtain⟨u,rfl⟩:=H.inv;exact fun prog w Q E hq=>lt_int (e.symm▸hq)
 have S:∀{a b:Str} {c:Bool},PR g (.str a) v->PR g (.str b) w->decide (a.cps.toList<b.cps.toList)=c->Azf A s v w c:=fun{a b c} n H e=>by
  obtain⟨t,rfl⟩:=n.inv;obtain⟨u,rfl⟩:=H.inv;exact fun prog w Q E hq=>wpAny_richCompare_same (Qa ..) (Qa ..) slot_str_lt (call_str_lt ⟨by simp,e.symm▸hq⟩) rfl
 cases h with
 |ie a=>exact absurd rfl W
 |il h=>exact I n H (decide_eq_true h)
 |ig h=>exact I n H (decide_eq_false (Int.lt_asymm h))
 |se a=>exact absurd rfl W
 |sl h=>exact S n H (decide_eq_true h)
 |sg h=>exact S n H (decide_eq_false (Bbl h))
theorem Apu {g:Heap}{A:Bs}{s:Ad}:∀{x y:List PV} {vs ws:List Ac} {r:Bool},PRs g x vs->PRs g y ws->ltL x y=some r->We A s vs ws r
 |[],ys,_,_,r,n,H,h=>by
  cases n;exact Af h▸H.length▸.nil
 |_::_,[],_,_,r,n,H,h=>by
  cases n;cases H;exact Af h▸.nil2
 |x::xs,y::ys,_,_,r,n,H,h=>by
  obtain⟨o,s,h⟩:=Ug h;cases n with|cons D n=>cases H with|cons z H=>cases o with
   |eq=>exact .eq (Ah2 s D z) (Apu n H h)
   |lt=>exact .ne (Ah2 s D z) (Af h▸Aqb s Ordering.noConfusion D z)
   |gt=>exact .ne (Ah2 s D z) (Af h▸Aqb s Ordering.noConfusion D z)
structure Nm (l:List PV):Prop where
 lst:∀x∈l,∃a,x=.list a
 cmp:∀x∈l,∀y∈l,(ltK x y).isSome=true
 nd:l.Nodup
noncomputable def ltB (x y:PV):Prop:=ltK x y=some true
theorem Nm.asym {l:List PV}(K:Nm l){x y:PV}(R:x∈l)(T:y∈l)(h:ltB x y):¬ltB y x:=by
 obtain⟨a,rfl⟩:=K.lst _ R;obtain⟨b,rfl⟩:=K.lst _ T;intro h';have h':ltL b a=some true:=h';rcases Ahs h with⟨_,h2,_⟩|⟨_,h2⟩
 ·cases h2
 ·exact nomatch h'.symm.trans h2
theorem Nm.total {l:List PV}(K:Nm l){x y:PV}(R:x∈l)(T:y∈l)(h:x≠y):ltB x y\/ltB y x:=by
 obtain⟨a,rfl⟩:=K.lst _ R;obtain⟨b,rfl⟩:=K.lst _ T;obtain⟨r,j⟩:=Dh.mp (K.cmp _ R _ T);rcases Ahs j with⟨h1,_⟩|⟨_,h2⟩
 ·exact absurd (congrArg _ (h1)) h
 ·cases r with
  |true=>exact .inl j
  |false=>exact .inr h2
theorem Nm.trans {l:List PV}(K:Nm l){x y z:PV}(R:x∈l)(T:y∈l)(hz:z∈l)(U:ltB x y)(O:ltB y z):ltB x z:=by
 obtain⟨a,rfl⟩:=K.lst _ R;obtain⟨b,rfl⟩:=K.lst _ T;obtain⟨d,rfl⟩:=K.lst _ hz;exact Afn (show ltL a b=some true from U) (show ltL b d=some true from O) (K.cmp _ R _ hz)
theorem Nm.perm {l l':List PV}(K:Nm l)(p:l'.Perm l):Nm l':=
 ⟨fun x R=>K.lst x (p.mem_iff.mp R),fun x R y T=>K.cmp x (p.mem_iff.mp R) y (p.mem_iff.mp T),p.nodup_iff.mpr K.nd⟩
theorem Ak0 {l a b:List PV}(K:Nm l)(p:a.Perm l)(c:b.Perm l)(d:a.Pairwise ltB)(s:b.Pairwise ltB):a=b:=by
 refine List.Perm.eq_of_pairwise (le:=ltB) (fun x y R T U O=>?_) d s (p.trans c.symm);exact absurd O (K.asym (p.mem_iff.mp R) (c.mem_iff.mp T) U)
open Classical in
noncomputable def L6 (l:List PV):List PV:=if h:∃q:List PV,q.Perm l/\q.Pairwise ltB then Classical.choose h else l
theorem Xi {l q:List PV}(K:Nm l)(p:q.Perm l)(s:q.Pairwise ltB):L6 l=q:=by
 have h:∃q:List PV,q.Perm l/\q.Pairwise ltB:=⟨q,p,s⟩;unfold L6;rw[dif_pos h];obtain⟨U,O⟩:=Classical.choose_spec h;exact Ak0 K U p O s
noncomputable def ltI (l:List PV)(i j:Nat):Bool:=ltK (l.getD i .none) (l.getD j .none)==some true
theorem A6r {l:List PV}(K:Nm l):A9g (ltI l) l.length where
 trans:=fun i j k H E hk U O=>by
  unfold ltI at *;rw[beq_iff_eq] at *;have m:∀i,i<l.length->l.getD i .none∈l:=fun i H=>by simp[H]
  exact K.trans (m i H) (m j E) (m k hk) U O
 total:=fun i j H E J=>by
  unfold ltI;rw[beq_iff_eq,beq_iff_eq];have m:∀i,i<l.length->l.getD i .none∈l:=fun i H=>by simp[H]
  refine K.total (m i H) (m j E) fun e=>J ?_;have r:l[i]=l[j]:=by simpa[H,E] using e
  exact(A4k K.nd).mp r
 asym:=fun i j H E h=>by
  unfold ltI at *;rw[beq_iff_eq] at h;have m:∀i,i<l.length->l.getD i .none∈l:=fun i H=>by simp[H]
  rw[beq_eq_false_iff_ne];exact K.asym (m i H) (m j E) h
theorem Ar4 {u:Type}(l:List u)(d:u){q:List Nat}(h:q.Perm (Gb l.length)):(q.map fun i=>l.getD i d).Perm l:=by
 have U:=h.map fun i=>l.getD i d;have e:(Gb l.length).map (fun i=>l.getD i d)=l:=by
  refine List.ext_getElem (by simp) fun i U O=>by simp[O]
 rwa[e] at U
end
section
theorem Arq {M:Mg}{h:Heap}{a:Addr}{o:Obj}{T:String}(e:h.get? a=some o)(L:o.cls=.type T):Looks M h (Bbr (.ref a)) (.type T):=fun A Q E s k q=>wpAny_typeOf ⟨o,k _ _ e,L⟩ q
theorem Akm {g:Heap}{l:List PV}{vs:List Ac}(r:PRs g l vs):∀{q:List Nat},(∀i∈q,i<l.length)->PRs g (q.map fun i=>l.getD i .none) (q.map fun i=>vs.getD i .none)
 |[],_=>.nil
 |i::q,h=>by
  have H:=h i (.head _);refine Aa fun C=>?_;obtain⟨v,F,d⟩:=r.get (i:=i) (x:=l[i]) (by simp[H]);refine C ?_;refine .cons ?_ (Akm r fun j E=>h j (.tail _ E));have W:l.getD i .none=l[i]:=by simp[H]
  have D:vs.getD i .none=v:=by simp[B7,F]
  show PR g (l.getD i .none) (vs.getD i .none);rw[W,D];exact d
section
variable {c:Cx}{k:Nat}{S:Sg}
open Classical in
noncomputable def Aap:List MV->Mu->Option (MV×Mu):=fun xs Z=>(Ahu xs).bind fun x=>(E0 Z x).bind fun l=>if Nm l/\l.length<64 then some (.p (.list (L6 l)),Z) else none
theorem Aek (hk:1≤k):ON c k (fun vs=>call (.builtin "sorted") vs) Aap:=by
 intro S A env g s B Z J V xs vs d Z' Q E P T rs e X;refine Aw e fun x e0 e=>?_;rw[Zo e0] at rs
 ·refine Aw e fun l W e=>?_;split at e
  ·rename_i h;refine Aa fun zk2=>?_;obtain⟨K,h64⟩:=h;cases e;obtain⟨_,rfl,r⟩:=rs.i1;refine exe2 (T.lst r W) fun a ws zw5=>?_;obtain⟨rfl,t,rl⟩:=zw5;refine zk2 ?_;have G:=rl.length;by_cases O:ws.length<2
   ·refine Ah5 t O fun D cc h' hD hk' u=>?_;obtain⟨T',ev⟩:=T.ev (h':=h') hk' s.toks;have eq:L6 l=l:=Xi K (List.Perm.refl _) (by
     match l,(show l.length<2 from(Ah (Ab (Aj (Eq.symm G)) (Ab (Aj G) (Ab (Aj (Eq.symm G)) (Ai O)))) (by decide))) with
     |[],_=>exact .nil
     |[x],_=>exact .cons (fun _ h=>by cases h) .nil)
    rw[eq] at X;exact X _ _ B _ ev T' (.p (.list (n:=cc) (Nv hD u) (rl.up (O4 T.keep hk'))))
   ·refine Aa fun zk4=>?_;obtain⟨m,z⟩:=T.ns;have hne:∀{b:Addr} {x:PV},PR g x (.ref b)->(∃y,x=.list y)->b≠env.locals:=fun r ⟨y,hy⟩=>by
     subst hy;cases r with
     |list t' _=>exact Jj z (T.keep _ _ t') fun es ep q=>by cases q
    obtain⟨q,kr,kp,ks⟩:=Axk (A6r K) (by omega) (n:=l.length) (by omega);refine zk4 ?_;have hq:∀i∈q.toList,i<l.length:=fun i H=>by simpa using kp.perm.mem_iff.mp H
    have eq:L6 l=q.toList.map fun i=>l.getD i .none:=Xi K (Ar4 l .none kp.perm) (by
     rw[List.pairwise_map,List.pairwise_iff_getElem];intro i j H hj hij;have:=ks i j hij (by simpa[kp.size] using hj);unfold ltI at this;rw[beq_iff_eq] at this;have ei:q.getD i 0=q.toList[i]:=by simp at H;simp[Q5,H]
     have ej:q.getD j 0=q.toList[j]:=by simp at hj;simp[Q5,hj]
     rw[ei,ej] at this;exact this)
    have item:∀i,i<l.length->∃b y ys n,ws.getD i .none=.ref b/\l.getD i .none=.list y/\IsL g b ys.toArray n/\PRs g y ys:=fun i H=>by
     refine Aa fun zk6=>?_;obtain⟨v,f,hr⟩:=rl.get (i:=i) (x:=l[i]) (by simp[H]);obtain⟨y,hy⟩:=K.lst l[i] (S9 H);refine zk6 ?_;rw[hy] at hr;cases hr with
     | @list b ys _ n t' r'=>exact exi4 b y ys n ⟨by simp[B7,f],by simp[H,hy],t',r'⟩
    refine kas_sorted (T:=.type "list") (fr0 z) Xf t (Cq O) (Ah (Ab (Aj G) (Ai h64)) (by decide)) (fun h F N v f=>?_) (by decide) fun D e1' h' F N hD=>?_
    ·refine Aa fun zk7=>?_;obtain⟨i,H,hiv⟩:=List.getElem_of_mem f;refine exe4 (item i (Ay H (Aj G))) fun b y ys n zw14=>?_;have U:=zw14.1;have w:=zw14.2.1;have Y:=zw14.2.2.1;refine zk7 ?_;have:v=.ref b:=by rw[<-hiv,<-U];simp[H]
     rw[this];exact Arq (N _ (M1 (fun e=>by
      have:=T.keep _ _ Y;rw[e] at this;exact Jj z this (fun es ep q=>by cases q) rfl) (T.keep _ _ Y))).1 rfl
    ·rw[show ws.length=l.length from G];refine KR.wp (lt:=ltI l) (n:=l.length) (Inv:=fun s'=>s'={s with heap:=h'}) (fun i j C s' H hj M hC=>?_) (fun s' M=>?_) kr rfl
     ·refine Aa fun zk8=>?_;subst M;refine exe4 (item i H) fun b y ys n zw20=>?_;obtain⟨U,w,Y,h5⟩:=zw20;refine exe4 (item j hj) fun b' y' ys' n' zw28=>?_;obtain⟨h1',h3',h4',h5'⟩:=zw28;have K':(ltL y y').isSome=true:=by
       have:=K.cmp (l.getD i .none) (by simp[H]) (l.getD j .none) (by simp[hj]);rwa[w,h3'] at this
      obtain⟨r,hr⟩:=Dh.mp K';refine zk8 ?_;unfold kas_ask;rw[U,h1'];have up:∀{b:Addr} {o:Obj},g.get? b=some o->(∀es ep,o.data≠.dict es ep)->h'.get? b=some o:=fun e hd=>by
       have:=N _ (.tail _ (M1 (L:=env.locals) (Jj z (T.keep _ _ e) hd) (T.keep _ _ e)));exact this.1
      refine A6f (r:=r) ?_ (up Y fun es ep q=>by cases q) (up h4' fun es ep q=>by cases q) (fun A=>Apu h5 h5' hr) ?_
      ·have:=P.units;show A.units+1+1<cLine;lia
      ·have:ltI l i j=r:=by
        unfold ltI;rw[w,h3'];show(ltL y y'==some true)=r;rw[hr];cases r<;>rfl
       rw[<-this];exact hC _ rfl
     ·subst M;refine exi2 _ _ ⟨F,N,UpdF.head fun p I e=>?_,fun h'' cc F' N'=>?_⟩
      ·exact J6 (hD p I) e
      ·obtain⟨T',ev⟩:=T.evL z (h':=h'') (Si F' N' fun p I=>.tail _ I) s.toks;have hDn:s.heap.get? D=none:=by
        cases R:s.heap.get? D with
        |none=>rfl
        |some o=>
         exfalso;by_cases eL:D=env.locals
         ·exact(N _ (.head _)).2.1 eL
         ·exact absurd (hD _ (M1 eL R)) (Em _)
       rw[eq] at X;refine X _ _ B _ ev T' (.p (.list (n:=cc) (Nv hDn ((N' _ (.head _)).1)) ((Akm rl hq).up ?_)));exact ev.up
  ·exact A2 e
end
end
section
open PySem.F
theorem Xh:Ayy.lookup (A8t (A8u "filter").reverse.reverse)=some Manifest.sig_filter:=by kernel_rfl
theorem Yz:Slot "filter" "__init__" "object.__init__":=
 .of (owner:="object") (n:="__init__") (by rw[Jc,Gc];kernel_rfl) (by decide+kernel) (by decide+kernel) (by decide+kernel)
  (by first|exact .inl (by decide+kernel)|exact .inr (by decide+kernel)) (by rw[J9];kernel_rfl)
theorem Rq:Slot "filter" "__iter__" "filter.__iter__":=
 .of (owner:="filter") (n:="__iter__") (by rw[Jc,Gc];kernel_rfl) (by decide+kernel) (by decide+kernel) (by decide+kernel)
  (by first|exact .inl (by decide+kernel)|exact .inr (by decide+kernel)) (by rw[J9];kernel_rfl)
theorem I4:Slot "filter" "__next__" "filter.__next__":=
 .of (owner:="filter") (n:="__next__") (by rw[Jc,Gc];kernel_rfl) (by decide+kernel) (by decide+kernel) (by decide+kernel)
  (by first|exact .inl (by decide+kernel)|exact .inr (by decide+kernel)) (by rw[J9];kernel_rfl)
theorem Qf:V8 table "filter.__next__"=some Builtin.«filter.__next__»:=P9 (by kernel_rfl)
theorem Yp:V8 table "filter.__new__"=some Builtin.«filter.__new__»:=P9 (by kernel_rfl)
theorem W1:V8 table "filter.__iter__"=some Builtin.«dict_keyiterator.__iter__»:=
 entryFor_alias (id':="dict_keyiterator.__iter__") (by kernel_rfl) (by first|rfl|decide+kernel|(unfold String.splitOn;simp+decide [String.splitOnAux])) (by decide+kernel) (by kernel_rfl)
theorem Ye (a:Ac):Aeb "filter.__iter__" ⟨[a],[]⟩:=by
 unfold Aeb;rw[Ado (id:="filter.__iter__") (n:=("__iter__".toList).reverse) (o:=("filter".toList).reverse) (by kernel_rfl) Xh];kernel_rfl
theorem Rd (a:Ac):Aeb "filter.__next__" ⟨[a],[]⟩:=by
 unfold Aeb;rw[Ado (id:="filter.__next__") (n:=("__next__".toList).reverse) (o:=("filter".toList).reverse) (by kernel_rfl) Xh];kernel_rfl
theorem Ach:mroOf (.type "filter")=pure [.type "filter",.type "object"]:=by rw[mroOf_type];kernel_rfl
theorem Xd:typeLookup (.type "filter") "__new__"=pure (some (.builtin "filter.__new__")):=by rw[Jc,Gc];kernel_rfl
theorem Adt:TypeCalled "filter" "filter.__new__" "object.__init__":=
 ⟨by decide+kernel,by decide+kernel,⟨_,_,Ach⟩,madeBy_type Ach Xd (by decide+kernel),by decide+kernel,by rw[J9];kernel_rfl,Yz⟩
theorem Xn (a b:Ac):checkTypeCall "filter" ⟨[a,b],[]⟩=pure ():=by kernel_rfl
theorem Yt (a b:Ac):V7 "filter.__new__" ⟨[.type "filter",a,b],[]⟩=pure ():=by kernel_rfl
theorem Ik:plainId "filter.__next__"=true:=by decide+kernel
theorem An2:Ay8 (.type "filter") (.type "filter")=pure true:=by rw[J9];kernel_rfl
noncomputable def R6 (J:Addr):Obj:={cls:=.type "filter",data:=.fields #[.builtin "len",.ref J]}
theorem Ys (t:Addr)(items:Array Ac):
  Ay6 (Builtin.«filter.__new__» ⟨[.type "filter",.builtin "len",.ref t],[]⟩) (fun _ R s=>s.heap.IsTuple t items∧
   R (.ok (.ret (.ref (s.heap.objs.size+1))))
    {s with heap:=(s.heap.push {cls:=.type "tuple_iterator",data:=.fields #[.ref t,.int 0 0]}).push (R6 s.heap.objs.size)}):=
 .of_wp fun prog w A R s h=>by
  obtain⟨I,g,d,tk,p⟩:=s;obtain⟨N,h⟩:=h;have a:=An2;have hz:(I.push {cls:=.type "tuple_iterator",data:=.fields #[.ref t,.int 0 0]}).objs.size=I.objs.size+1:=Fx ..
  wp_walk using Bbu N
  dsimp only at h |-
  rw[hz];exact⟨_,rfl,h⟩
section
variable {prog:Ia}{w:F7}{A:Bs}{E:Ac->Ad->Prop}{s:Ad}
theorem Z1 {t:Addr}{items:Array Ac}{Q:Ac->Ad->Prop}(d:s.heap.IsTuple t items)
  (h:Q (.ref (s.heap.objs.size+1)) {s with heap:=(s.heap.push {cls:=.type "tuple_iterator",data:=.fields #[.ref t,.int 0 0]}).push (R6 s.heap.objs.size)}):
  A1 (model prog w) A (call (.type "filter") [.builtin "len",.ref t]) Q E s:=by
 refine callType_new Adt (by decide) (Xn _ _) (Yt _ _) (fun obj=>Ph obj _ _) Yp
  (Ys t items) ⟨d,?_⟩
 have hz:(s.heap.push {cls:=.type "tuple_iterator",data:=.fields #[.ref t,.int 0 0]}).objs.size=s.heap.objs.size+1:=Fx ..
 have:=Cy (s.heap.push {cls:=.type "tuple_iterator",data:=.fields #[.ref t,.int 0 0]}) (o:=R6 s.heap.objs.size) rfl
 rw[hz] at this;exact⟨⟨_,this,rfl⟩,h⟩
theorem Oo {I J:Addr}{Q:Ac->Ad->Prop}(p:s.heap.get? I=some (R6 J))(h:Q (.ref I) s):A1 (model prog w) A (Z8 (.ref I)) Q E s:=by
 have u:s.TypeIs (.ref I) "filter":=⟨_,p,rfl⟩;refine wpAny_pyIter_slot u Rq (V9 Rq u W1 ?_ (Ye _));show A1 _ _ (ret (.ref I)) _ _ s;exact Al ⟨_,rfl,"filter",_,u,I4.lookup,h⟩
end
end
section
section
variable {prog:Ia}{w:F7}{A:Bs}{E:Ac->Ad->Prop}{s:Ad}
theorem Ah9 {q t:Addr}{i:Nat}{items:Array Ac}{x:Ac}{Q:Option Ac->Ad->Prop}(p:s.heap.IsTupleIter q t i)
  (d:s.heap.IsTuple t items)(R:items[i]?=some x)
  (X:∀h',h'.IsTupleIter q t (i+1)->Aq1 q s.heap h'->Q (some x) {s with heap:=h'}):
  A1 (model prog w) A (A25 (.ref q) "__next__") Q E s:=by
 refine Aa fun C=>?_;obtain⟨o,y,L,hd⟩:=id p;obtain⟨b,h,_,n,u⟩:=d;refine C ?_;refine Od (name:=oS "__next__") p.typeIs Ll
  (V9 Ll p.typeIs Al0 ?_ (Alv _))
 show A1 _ _ (field (.ref q) 0 >>= _) _ _ s;refine Ag (Oe y hd (x:=.ref t) rfl ?_);show A1 _ _ (if(Ol t==Jr)=true then _ else _) _ _ s;rw[if_neg (show ¬((Ol t==Jr)=true) from Q6)];show A1 _ _ (field (.ref q) 1 >>= _) _ _ s;refine Ag (Oe y hd (x:=.int i 0) rfl ?_);show A1 _ _ (seqItems? (.ref t) >>= _) _ _ s;refine Ag (wpAny_seqItems h u ?_);simp only[Adg,R];refine Ag (wpAny_setField y hd (by simp) (Al ⟨x,rfl,X _ ?_ (Es ..)⟩));exact⟨_,Heap.get?_update_self _ y (Obj.isFreed_of_fields (A28 hd _)),(Obj.cls_mapFields ..).trans L,by
  rw[A28 hd];simp[Hb]⟩
theorem Alb {q t:Addr}{i:Nat}{items:Array Ac}{Q:Option Ac->Ad->Prop}(C:A.handled=none)
  (p:s.heap.IsTupleIter q t i)(d:s.heap.IsTuple t items)(R:items[i]?=none)
  (I:∀h' e,Mq q s.heap h'→(∃o,h'.get? e=some o∧o.cls=.type "StopIteration")→E (.ref e) {s with heap:=h'}):
  A1 (model prog w) A (A25 (.ref q) "__next__") Q E s:=by
 refine Aa fun X=>?_;obtain⟨o,y,L,hd⟩:=id p;obtain⟨b,h,_,n,u⟩:=d;refine X ?_;refine Od (name:=oS "__next__") p.typeIs Ll
  (V9 Ll p.typeIs Al0 ?_ (Alv _))
 show A1 _ _ (field (.ref q) 0 >>= _) _ _ s;refine Ag (Oe y hd (x:=.ref t) rfl ?_);show A1 _ _ (if(Ol t==Jr)=true then _ else _) _ _ s;rw[if_neg (show ¬((Ol t==Jr)=true) from Q6)];show A1 _ _ (field (.ref q) 1 >>= _) _ _ s;refine Ag (Oe y hd (x:=.int i 0) rfl ?_);show A1 _ _ (seqItems? (.ref t) >>= _) _ _ s;refine Ag (wpAny_seqItems h u ?_);simp only[Adg,R];refine Ag (S7 (Ag (wpAny_setField y hd (by simp) ?_)));show A1 _ _ (newExc (.type "StopIteration") [] >>= _) _ _ _;refine Ag ?_;simp only[newExc,A8l];refine Ag (Li ?_ (by size_fits));refine Ag (m:=firstArgMember _ _) (A8p (a:=Jr) (by first|rfl|(simp only[firstArgMember];rfl)) ?_);refine Li ?_ (by size_fits);dsimp only[raiseNew];refine Ag (wpAny_handled ?_);first|rw[show A.in1.handled=none from C]|rw[C]
 refine Ag (Al (wpAny_throw ?_));exact I _ _ (((Es ..).extBut.push _).push _) ⟨_,Cy _ rfl,rfl⟩
noncomputable def S2:Ac->Bool
 | .str y _=>(y.length:Int) != 0
 |_=>false
noncomputable def Ahh (v:Ac):Prop:=∃y u,v=.str y u/\y.length<2^62
structure Qp (I J t:Addr)(items:Array Ac)(j:Nat)(h:Heap):Prop where
 f:h.get? I=some (R6 J)
 i:h.IsTupleIter J t j
 t:h.IsTuple t items
theorem Qp.ne {I J t:Addr}{items:Array Ac}{j:Nat}{h:Heap}(x:Qp I J t items j h):I≠J/\t≠J:=by
 obtain⟨U,⟨o,O,C,G⟩,⟨l,R,r,K⟩⟩:=x;constructor
 ·rintro rfl;rw[U] at O;cases O;exact absurd C (by simp[R6])
 ·rintro rfl;rw[R] at O;cases O;rw[r] at C;exact absurd C (by decide)
theorem Ae9 {I J t:Addr}{items:Array Ac}{j:Nat}(C:A.handled=none)(st:Qp I J t items j s.heap)(l:∀v∈items.toList,Ahh v){Q:Fin->Ad->Prop}
  (K:items[j]?=none→∀h' e,Mq J s.heap h'→(∃o,h'.get? e=some o∧o.cls=.type "StopIteration")→E (.ref e) {s with heap:=h'})
  (T:∀v h' tk,items[j]?=some v→Qp I J t items (j+1) h'→Mq J s.heap h'→if S2 v=true then Q (.done (.ret v)) {s with heap:=h',toks:=tk} else Q (.again (.builtin "filter.__next__" ⟨[.ref I],[]⟩)) {s with heap:=h',toks:=tk}):
  A1 (model prog w) A (Builtin.«filter.__next__» ⟨[.ref I],[]⟩) Q E s:=by
 obtain⟨i,z⟩:=st.ne;show A1 _ _ (field (.ref I) 0 >>= _) _ _ s;refine Ag (Oe st.f rfl (x:=.builtin "len") rfl ?_);show A1 _ _ (field (.ref I) 1 >>= _) _ _ s;refine Ag (Oe st.f rfl (x:=.ref J) rfl ?_);show A1 _ _ (A25 (.ref J) "__next__" >>= _) _ _ s;cases e:items[j]? with
 |none=>exact Ag (Alb C st.i st.t e fun h' r R m=>K e h' r R m)
 |some v=>
  refine Ag (Ah9 st.i st.t e fun h' p b=>?_);have a:Qp I J t items (j+1) h':=⟨b.extBut _ _ i st.f,p,st.t.extBut b.extBut z⟩;refine Aa fun h=>?_;obtain⟨y,u,rfl,N⟩:=l v (by
   obtain⟨D,r⟩:=Kx.mp e;rw[<-r];simp)
  refine h ?_;refine Ag (Ci ?_);show A1 _ _ (call (.builtin "len") [.str y u] >>= fun g=>holding [g] (truthy g)) _ _ _;refine Ag (Agf (by lia) ?_);refine Ci (Adi ?_);have:=T _ h' (s.toks+1+1) e a b.extBut;have W:S2 (.str y u)=((y.length:Int) != 0):=rfl;rw[W] at this;cases Y:((y.length:Int) != 0) with
  |true=>rw[Y,if_pos rfl] at this;exact Al this
  |false=>rw[Y,if_neg (by decide)] at this;exact Al this
end
end
section
section
variable {prog:Ia}{w:F7}{A:Bs}{E:Ac->Ad->Prop}{s:Ad}
theorem Ae8 {I J t:Addr}{items:Array Ac}(C:A.handled=none)(l:∀v∈items.toList,Ahh v){R:Ic->Ad->Prop}:∀(m j:Nat) (s:Ad),items.size-j=m->Qp I J t items j s.heap->
  (∀v h' tk g,Qp I J t items g h'->(items.toList.drop j).filter S2=v::(items.toList.drop g).filter S2->Mq J s.heap h'->R (.ok (.ret v)) {s with heap:=h',toks:=tk})->
  ((items.toList.drop j).filter S2=[]→∀h' tk e,Mq J s.heap h'→(∃o,h'.get? e=some o∧o.cls=.type "StopIteration")→R (.error (.ref e)) {s with heap:=h',toks:=tk})→
  I1 (model prog w) A (.builtin "filter.__next__" ⟨[.ref I],[]⟩) R s:=by
 intro m;induction m with
 |zero=>
  intro j s z st _ Q;refine Nj Qf ?_;rw[Aqz Ik _];refine Ae9 (A:=A.in1) C st l (fun _ h' e u y=>?_) fun v h' tk F _ _=>?_
  ·exact Q (by rw[Jz (by simp;exact Dm z)];rfl) h' s.toks e u y
  ·obtain⟨E,_⟩:=Kx.mp F;exact absurd z (Kr E)
 |succ m O=>
  intro j s z st B Q;have hd:∀v,items[j]?=some v->items.toList.drop j=v::items.toList.drop (j+1):=fun v F=>by
   obtain⟨E,e⟩:=Kx.mp F;rw[Cc (E)]
   congr 1
  refine Nj Qf ?_;rw[Aqz Ik _];refine Ae9 (A:=A.in1) C st l (fun K h' e u y=>?_) fun v h' tk F a u=>?_
  ·exact absurd (Qd z) (C0 (Array.getElem?_eq_none_iff.mp K))
  ·cases Y:S2 v with
   |true=>
    rw[if_pos rfl];exact B v h' tk (j+1) a (by rw[hd v F,Ho Y]) u
   |false=>
    rw[if_neg (by simp)];refine⟨M7 Ik _,O (j+1) _ (Wp z) a (fun k c i g h e f=>?_) fun e c i r f y=>?_⟩
    ·exact B k c i g h (by rw[hd v F,Jg (by simp[Y])];exact e) fun b o d q=>f b o d (u b o d q)
    ·exact Q (by rw[hd v F,Jg (by simp[Y])];exact e) c i r (fun b o d q=>f b o d (u b o d q)) y
theorem Walks.filter {I J t:Addr}{items:Array Ac}(C:A.handled=none)(l:∀v∈items.toList,Ahh v):
  Walks prog w A I [I,J,t] [J] (items.toList.filter S2).length (fun i v=>(items.toList.filter S2)[i]?=some v)
   (fun i h=>∃j,Qp I J t items j h/\(items.toList.drop j).filter S2=(items.toList.filter S2).drop i) where
 sub:=fun b Y=>by simp at Y;simp[Y]
 frame:=fun _ _ _ ⟨j,st,e⟩ hk=>⟨j,⟨hk I (by simp) _ st.f,st.i.elim fun o k=>⟨o,hk J (by simp) _ k.1,k.2⟩,st.t.elim fun o k=>⟨o,hk t (by simp) _ k.1,k.2⟩⟩,e⟩
 item:=fun i s Q E H ⟨j,st,e⟩ X=>by
  have u:s.TypeIs (.ref I) "filter":=⟨_,st.f,rfl⟩;unfold Ata;refine Ag (Ayw (Od (name:=oS "__next__") u I4 (Aee (Atp (M7 Ik _) ?_))));refine I4.check _ _ _ _ _ _ _ _ u (Rd _) ?_;refine Ae8 C l _ j s rfl st (fun v h' tk g a K R=>?_) fun K=>?_
  ·rw[e,Cc H] at K;obtain⟨U,O⟩:=Hw K;refine Al (X v h' tk (by rw[Bx H,U]) ⟨g,a,O.symm⟩ fun b o Y=>R b o (fun h=>Y (by simp[h])))
  ·rw[e,Cc H] at K;cases K
 done:=fun s Q E ⟨j,st,e⟩ X=>by
  have u:s.TypeIs (.ref I) "filter":=⟨_,st.f,rfl⟩;unfold Ata;refine Ag (Ayw (Od (name:=oS "__next__") u I4 (Aee (Atp (M7 Ik _) ?_))));refine I4.check _ _ _ _ _ _ _ _ u (Rd _) ?_;refine Ae8 C l _ j s rfl st (fun v h' tk g a K R=>?_) fun K h' tk x R y=>?_
  ·rw[e,Jz (At _)] at K;cases K
  ·refine Aa fun P=>?_;obtain⟨o,y,L⟩:=y;refine P ?_;refine Ag (wpAny_isInstance (T:="StopIteration") (b:=true) ⟨o,y,L⟩ isSubtype_stop ?_);exact Al (X h' tk fun b o Y=>R b o (fun h=>Y (by simp[h])))
 self:=fun _ _ _ _ ⟨j,st,_⟩ X=>Oo st.f X
end
end
section
section
variable {prog:Ia}{w:F7}{A:Bs}{E:Ac->Ad->Prop}{s:Ad}
theorem A00 {G:Env}{q:Dx}{ps:Array Ac}{pos:Pos}{D:M6}{Q:Ac->Ad->Prop}(l:G.code=.ref q.code)(C:CodeHd s.heap q.code q.tab)(n:s.heap.get? q.tab=some (Qb ps))
  (m:Ay7 ps.toList)(h:∀pos d,Sy pos ps.toList=some d->∃c',d=.ref c')
  (X:∀c' h' tk p,Mq q.tab s.heap h'->s.heap.objs.size<=h'.objs.size->h'.get? q.tab=some (Qb p)->
   (p=ps\/(s.heap.objs.size<=c'/\c'<h'.objs.size/\h'.CodeRec (.ref c') q.qual/\p=ps++ #[Hb pos.line,Hb pos.col,.ref c']))->Q (.ref c') {s with heap:=h',toks:=tk}):
  A1 (model prog w) A (genexprCode G pos q.qual D) Q E s:=by
 cases u:Sy pos ps.toList with
 |some d=>
  refine Aa fun z=>?_;obtain⟨c',rfl⟩:=h pos d u;refine exe8 (id (C.code n m)) fun o vs F tf v I inF text j=>?_;refine exe2 j fun t i b=>?_;obtain⟨y,hd,f,O,K,e,c,B,x,H,W⟩:=b;refine z ?_;unfold genexprCode codeAt;rw[l,if_neg (show ¬((Ol q.code==Jr)=true) from Q6)];refine Ag (wpAny_fieldsOf y hd ?_);rw[f];refine Ag (wpAny_fieldsOf B x ?_);rw[u];exact Al (X c' s.heap s.toks ps (Heap.ExtBut.refl _ _) (At _) n (.inl rfl))
 |none=>
  refine wpAny_genexprCodeX l (C.code n m) (C.tab n) u fun c' h' tk R a M r g k _=>?_;exact X c' h' tk _ R (Ab a (Ba M)) k.2 (.inr ⟨a,M,g,rfl⟩)
theorem Akk (n:Nat):passing (fun _=>true) n 0=Gb n:=by
 unfold passing;rw[Gy,List.filter_eq_self];intros;rfl
theorem Akn {cenv:Env}{x:Str}{p0 b pos:Pos}{p d:List Addr}{l:List Ac}{c:Heap}(hk:cenv.scope.kind=.function)(R:cenv.kindOf x=some .local)(hd:(x==("__debug__":Str))=false)
  (M:∀v∈l,∃y u,v=.str y u∧y.length≤Ky)(h:Qo (.Name x p0) "strip" cenv (eval (.Name x p0) cenv)=eval (.Name x p0) cenv)(Y:(b.endLine==pos.line)=true):
  QuietGen prog w cenv x [] (.Call (.Attribute (.Name x p0) "strip" b) [] [] pos) p d (fun i v=>l[i]?=some v) (fun _=>true) (fun i v=>∃y u t,l[i]?=some (.str y u)∧v=.str (Fj y) t) c where
 tests:=fun A g i v j m _ _ _ _ _=>by
  rw[Q7];exact Al ⟨rfl,j.heap,j.toks,rfl,fun _ _ e=>e⟩
 elt:=fun A g i v j m _ n _ K z _=>by
  refine Aa fun X=>?_;refine exe2 (M v (Bo n)) fun y u o=>?_;obtain⟨rfl,N⟩:=o;refine X ?_;refine Lh h rfl Y Jq F.slot_str_strip F.type_str_strip ?_;refine Fi (A8o hk R K z ?_) hd;refine⟨Qa _ _ _,(fun a e=>by cases e),?_⟩;refine Gv rfl (Dr rfl (O7 ?_));exact SC.strip (fun f k=>⟨⟨y,u,f,n,rfl⟩,j.heap,k,rfl,fun _ _ e=>e⟩) N
end
section
variable {c:Cx}{k:Nat}{S:Sg}{env:Env}{g:Heap}{s:Ad}{B:List Addr}{Z:Mu}{fs:List (Addr×Hd)}{V:Sl}
theorem St.gens (T:St c S env g s B Z fs V){gs:Array GenState}(Y:Lf gs):∃N,Ev g s B N {s with gens:=gs} B/\St c S env N {s with gens:=gs} B Z fs V:=
 ⟨_,.same (O4 T.keep Up.rfl) rfl,T.grow (s':={s with gens:=gs}) Up.rfl Y⟩
noncomputable def G2 (y:Str):Bool:=(y.length:Int) != 0
noncomputable def Afg (ys:List Str):Str:=Cs "-" ((ys.filter G2).map Fj)
end
end
section
theorem A16 {g:Heap}{B:List Addr}{ys:List Str}:∀{vs:List Ac},VRs g B (ys.map fun y=>MV.p (.str y)) vs->∃l:List (Str×Tok),vs=D8 l/\l.map (·.1)=ys:=by
 induction ys with
 |nil=>exact fun r=>⟨[],r.inv,rfl⟩
 |cons y ys J=>
  intro vs r;refine Aa fun C=>?_;obtain⟨v,ws,e,a,b⟩:=r.inv;obtain⟨u,K⟩:=a.pl;obtain⟨l,W,D⟩:=J b;refine C ?_;exact⟨(y,u)::l,by rw[e,K,W];rfl,congrArg (y:: ·) D⟩
theorem Ajt (l:List (Str×Tok)):(D8 l).filter S2=D8 (l.filter fun p=>G2 p.1):=by
 induction l with
 |nil=>rfl
 |cons p l J=>
  show(Mi p.1 p.2::D8 l).filter S2=_;have e:S2 (.str p.1 p.2)=G2 p.1:=rfl;cases h:G2 p.1 with
  |true=>rw[Ho (by rw[e,h]),Ho (by simpa using h),J];rfl
  |false=>rw[Jg (by rw[e,h];simp),Jg (by simp[h]),J]
theorem Zr (l:List (Str×Tok))(i:Nat):(D8 l)[i]?=(l[i]?).map fun p=>Mi p.1 p.2:=by
 unfold D8;rw[B0]
theorem Zs (l:List (Str×Tok)):(D8 l).length=l.length:=by unfold D8;simp
noncomputable def okJ (ys:List Str):Bool:=decide (ys.length≤100)&&ys.all (fun y=>decide (y.length≤100000))&&JoinOk "-" ((ys.filter G2).map Fj)
section
variable {c:Cx}{k:Nat}{S:Sg}{env:Env}{g:Heap}{s:Ad}{B:List Addr}{Z:Mu}{fs:List (Addr×Hd)}{V:Sl}
theorem Am4 {ys:List Str}{l lt:List (Str×Tok)}(N:l.map (·.1)=ys){n:Nat}{vs:List Ac}(F:vs=D8 (l.filter fun p=>G2 p.1))(K:n=vs.length)(M:(D8 lt).length=n)
  (Y:∀(j:Nat)(x:Ac),(D8 lt)[j]?=some x->∃i:Nat,(Gb n)[j]?=some i/\∃y u f,vs[i]?=some (Mi y u)/\x=Mi (Fj y) f):lt.map (·.1)=(ys.filter G2).map Fj:=by
 subst F;rw[show(ys.filter G2).map Fj=(l.filter fun p=>G2 p.1).map fun p=>Fj p.1 by rw[<-N,List.filter_map,F6];rfl];generalize l.filter (fun p=>G2 p.1)=L at K Y;rw[Zs] at K M;apply A21;intro j;rw[B0,B0];cases e:lt[j]? with
 |none=>rw[Io (by rw[<-K,<-M];exact Ep.mp e)];rfl
 |some p=>
  refine Aa fun X=>?_;obtain⟨i,C,y,u,f,G,R⟩:=Y j (Mi p.1 p.2) (by rw[Zr,e];rfl);refine X ?_;have q:=Aq.mp C;have J:i=j:=by rw[<-q.2,List.getElem_range]
  rw[J,Zr] at G;cases d:L[j]? with
  |none=>rw[d] at G;exact nomatch G
  |some r=>
   rw[d] at G;injection Af G with h8 _
   injection R with h9 _
   exact congrArg some (h9.trans (congrArg Fj h8.symm))
theorem Avo {q:Dx}(hq:q∈c.tabs){A:Bs}{E:Ac->Ad->Prop}{Q:Ac->Ad->Prop}{i:Nat}{vk:VK}{xa x:Str}{ys:List Str}{n1:Nat}{p1 p4 p5 p6 p7 p8 apos pos:Pos}{D:M6}
  (hcode:env.code=.ref q.code)(hqual:env.qual++"<genexpr>"=q.qual)(P:AOk A k ((env.locals,HK.ns)::fs.map kd))(T:St c S env g s B Z fs V)
  (w:S.vars[i]?=some (xa,vk))(hV:V[i]?=some (some (.tup (ys.map fun y=>.p (.str y)))))(hok:okJ ys=true)(hxa1:(xa==("__debug__":Str))=false)(hxa2:(xa==("__classdict__":Str))=false)
  (hf1:S.names.lookup ("filter":Str)=some .globalImplicit)(hf2:c.mg "filter"=none)(hf3:c.mb "filter"=some (.type "filter"))
  (hl1:S.names.lookup ("len":Str)=some .globalImplicit)(hl2:c.mg "len"=none)(hl3:c.mb "len"=some (.builtin "len"))
  (hco:D.isCoroutine=false)(hfree:∀y∈D.names,y.2≠.free)(hcell:∀y∈D.names,y.2≠.cell)(h0:D.names.lookup (".0":Str)=some NameKind.local)
  (R:D.names.lookup x=some .local)(hkind:D.kind=.function)(hxd:(x==("__debug__":Str))=false)
  (hline:(p6.endLine==p7.line)=true)(hline2:(apos.endLine==pos.line)=true)
  (hb1:∀cenv,Qo (.Name x p5) "strip" cenv (eval (.Name x p5) cenv)=eval (.Name x p5) cenv)(hb2:Qo (.Constant (.str "-") n1 p1) "join" env (eval (.Constant (.str "-") n1 p1) env)=eval (.Constant (.str "-") n1 p1) env)
  (hs1:∀e,E7 [A26 (.Call (.Attribute (.Name x p5) "strip" p6) [] [] p7) [⟨.Name x p4,e,[],0⟩] D p8] env=[(false,eval (A26 (.Call (.Attribute (.Name x p5) "strip" p6) [] [] p7) [⟨.Name x p4,e,[],0⟩] D p8) env)])
  {pf pl pa pc:Pos}(hs2:E7 [Expr.Name "len" pl,Expr.Name xa pa] env=[(false,eval (.Name "len" pl) env),(false,eval (.Name xa pa) env)])
  (X:∀M s' v,Ev g s B M s' B->St c S env M s' B Z fs V->VR M B (.p (.str (Afg ys))) v->s.toks+1<=s'.toks->Q v s'):
  A1 c.M A (eval (.Call (.Attribute (.Constant (.str "-") n1 p1) "join" apos)
   [.GeneratorExp (.Call (.Attribute (.Name x p5) "strip" p6) [] [] p7) [⟨.Name x p4,.Call (.Name "filter" pf) [.Name "len" pl,.Name xa pa] [] pc,[],0⟩] D p8] [] pos) env) Q E s:=by
 unfold okJ at hok;rw[A0,A0] at hok;refine Aa fun zk3=>?_;obtain⟨⟨hk1,hk2⟩,hk3⟩:=hok;refine zk3 ?_;have hk2:∀y∈ys,y.length<=100000:=fun y hy=>of_decide_eq_true (Bd.mp hk2 y hy);refine Lh hb2 (by rw[hs1];rfl) hline2 Jq F.slot_str_join F.type_str_join ?_;show A1 c.M A (mkText "-") _ _ s;refine Ail ⟨Qa _ _ _,(fun a e=>by cases e),?_⟩;refine Nk (n:=s.toks+1) (At _) ?_;refine Gv (by rw[Fb,hs1];rfl) (Dr (by rw[Fb,hs1];rfl) ?_);rw[hs1];refine Jf ?_;have I:=T.toks (s.toks+1);have hlim:=Vu ((Av.mp P.sta).resolve_left (fun e=>by have:=congrArg Aiu e;cases this)) I;refine Aa fun zk4=>?_;obtain⟨m,F,_⟩:=id I.fst;obtain⟨hP1,ps,hP2,hP3⟩:=F.tab q hq;obtain⟨bm,ob,b1,b2,b3,b4,b5,b6⟩:=F.top.top.bmain;refine zk4 ?_;have hbP:bm≠q.tab:=fun e=>by rw[e,hP1] at b3;cases b3
 have hgP:Di≠q.tab:=fun e=>by
  obtain⟨o,es,ep,e',hd,_⟩:=F.top.top.g;rw[e,hP1] at e';cases e'
 have hcP:H2≠q.tab:=fun e=>by
  obtain⟨_,hns,_⟩:=hlim;obtain⟨o,es,ep,ho,hd,_⟩:=hns;rw[e,hP2] at ho;cases ho;cases hd
 have hroom:A.depth<Atb:=by have:=P.depth;lia
 have hclos:Bbq D env=pure (Ei env.cells D.names []):=Yo fun y hy h=>absurd h (hfree y hy);refine wpAny_GeneratorExp_walksQ P.hh hco hclos hcell h0 R hkind hroom ?_ (fun _=>rfl);refine A8i ?_;refine Fi (Dp T.kind (by show env.scope.names.lookup _=_;rw[T.sc];exact hf1) (Hi (by rw[T.glob];exact(F.top.top.g.keeps F.keep)) hf2 (by rw[T.blt];exact F.top.top.b.keeps F.keep) hf3 ?_)) (by decide);refine PySem.callWith_type (by rw[Fb,hs2];rfl) (Dr (by rw[Fb,hs2];rfl) ?_);rw[hs2];refine Jf ?_;refine Fi (Dp T.kind (by show env.scope.names.lookup _=_;rw[T.sc];exact hl1) (Hi (by rw[T.glob];exact(F.top.top.g.keeps F.keep)) hl2 (by rw[T.blt];exact F.top.top.b.keeps F.keep) hl3 ?_)) (by decide);refine Jf (Fi (I.read w hV hxa2 fun v r=>O7 ?_) hxa1);cases r with
 | @tup t vs _ ht rs=>
 refine Aa fun zk8=>?_;obtain⟨l,zz42⟩:=A16 rs;obtain rfl:=zz42.1;have N:=zz42.2;refine zk8 ?_;have htH:s.heap.IsTuple t (D8 l).toArray:=by obtain⟨o,e,r⟩:=ht;exact⟨o,F.keep _ _ e,r⟩
 show A1 c.M A (call (.type "filter") [.builtin "len",.ref t]) _ _ _;refine Z1 (s:={s with toks:=s.toks+1}) htH ?_;dsimp only;generalize hJ:s.heap.objs.size=J;generalize hH:(s.heap.push {cls:=.type "tuple_iterator",data:=.fields #[.ref t,.int 0 0]}).push (R6 J)=H
 have hz:H.objs.size=J+1+1:=by rw[<-hH,Fx,Fx,hJ]
 have upH:Up s.heap H:=fun b o e=>by rw[<-hH];exact E6 _ _ _ _ (E6 _ _ _ _ e)
 have hfilt:Qp (J+1) J t (D8 l).toArray 0 H:=by
  have hz1:(s.heap.push {cls:=.type "tuple_iterator",data:=.fields #[.ref t,.int 0 0]}).objs.size=J+1:=by rw[Fx,hJ]
  refine⟨?_,⟨{cls:=.type "tuple_iterator",data:=.fields #[.ref t,.int 0 0]},?_,rfl,rfl⟩,htH.elim fun o k=>⟨o,upH _ _ k.1,k.2⟩⟩
  ·rw[<-hH,<-hz1];exact Cy _ rfl
  ·rw[<-hH,<-hJ];exact E6 _ _ _ _ (Cy _ rfl)
 refine Oo (s:={s with heap:=H,toks:=s.toks+1}) hfilt.f ⟨hlim.keeps upH,?_⟩;rw[hqual];refine A00 (s:={s with heap:=H,toks:=s.toks+1}) hcode (((F.top.code q hq).keeps F.keep).keeps upH) (upH _ _ hP2) hP3.tri (fun pos cv e=>(hP3.rec_ pos cv e).1) fun c' h3z tk ps' hx3 hge hP3' hps=>?_;dsimp only at hx3 hge hps;have htP:t≠q.tab:=fun e=>by obtain⟨o,e',_⟩:=ht;rw[e,hP1] at e';cases e'
 have hIP:J+1≠q.tab:=fun e=>by have:=upH _ _ hP2;rw[<-e,hfilt.f] at this;cases this
 have hJP:J≠q.tab:=fun e=>by obtain⟨o,zz35⟩:=hfilt.i;have d:=zz35.1;have L:=zz35.2.1;have:=upH _ _ hP2;rw[<-e,d] at this;cases this;cases L
 have hfc:Qp (J+1) J t (D8 l).toArray 0 h3z:=⟨hx3 _ _ hIP hfilt.f,hfilt.i.elim fun o k=>⟨o,hx3 _ _ hJP k.1,k.2⟩,hfilt.t.elim fun o k=>⟨o,hx3 _ _ htP k.1,k.2⟩⟩;have hlc:h3z.NoLimit:=(hlim.keeps upH).extBut hx3 hcP;have up3:∀b o,b≠q.tab->s.heap.get? b=some o->h3z.get? b=some o:=fun b o Y e=>hx3 b o Y (upH _ _ e);have gP:∀b o,g.get? b=some o->b≠q.tab:=fun b o e h=>by rw[h,hP1] at e;cases e
 have hgs3:h3z.Ns Di c.mg:=F.top.top.g.at fun o e=>up3 _ _ hgP (F.keep _ _ e);refine wpAny_builtinsFor (m:=c.mg) (T.glob▸hgs3) b1 b2 (up3 _ _ hbP (F.keep _ _ b3)) b4 b5 b6 ?_;dsimp only;have hJ3:J+1+1<=h3z.objs.size:=by rw[<-hz];exact hge
 have hlt:t<J:=by obtain⟨o,zz33⟩:=htH;have e:=zz33.1;rw[<-hJ];exact D5 e
 have hfit:∀v∈(D8 l).toArray.toList,Ahh v:=fun v G=>by
  have G:v∈D8 l:=by simpa using G
  refine Aa fun zk9=>?_;obtain⟨p,C,rfl⟩:=Bj.mp G;refine zk9 ?_;have:=hk2 p.1 (by rw[<-N];exact C6 C);exact⟨p.1,p.2,rfl,(Ah this (by decide))⟩
 refine⟨J+1,[J+1,J,t],[J],_,_,_,fun _=>true,fun i v=>∃y u t',((D8 l).toArray.toList.filter S2)[i]?=some (.str y u)/\v=.str (Fj y) t',rfl,fun A' hA'=>Walks.filter hA' hfit,⟨0,hfc,rfl⟩,?_,hlc,?_,fun href hk=>?_,fun a h5z tke gs hgb hag hsz5 hk5 W hat=>?_⟩
 ·intro b Y;show b<h3z.objs.size;have q1:J+1<h3z.objs.size:=hJ3;have q2:J<h3z.objs.size:=A4o q1;rcases Av.mp Y with Y|Y
  ·rw[Y];exact q1
  ·rcases Av.mp Y with Y|Y
   ·rw[Y];exact q2
   ·rw[A6.mp Y];exact Cv hlt q2
 ·intro z;have:=A6.mp z;obtain⟨_,zz29⟩:=hlim;have h9:=zz29.1.lt;have h9:H2<s.heap.objs.size:=h9;rw[hJ,this] at h9;exact Em _ h9
 ·refine Akn hkind (show D.names.lookup x=_ from R) hxd (fun v G=>?_) (hb1 _) hline;have G:=(A8e.mp G).1;have G:v∈D8 l:=by simpa using G
  obtain⟨p,C,rfl⟩:=Bj.mp G;have:=hk2 p.1 (by rw[<-N];exact C6 C);exact⟨p.1,p.2,rfl,by unfold Ky;exact Ab this (by decide)⟩
 ·refine O7 ?_;show A1 c.M A (call (.builtin "str.join") [.str "-" s.toks,.ref a]) _ _ _;rw[Akk] at W;have K:(Gb ((D8 l).toArray.toList.filter S2).length).length=((D8 l).toArray.toList.filter S2).length:=List.length_range ..;have hfl:(D8 l).toArray.toList.filter S2=D8 (l.filter fun p=>G2 p.1):=by
   rw[show(D8 l).toArray.toList=D8 l from rfl,Ajt]
  have hn100:((D8 l).toArray.toList.filter S2).length<=100:=by
   refine Ab (Asx _ _) ?_;rw[show(D8 l).toArray.toList=D8 l from rfl,Zs,<-Bn (f:=(·.1)) (as:=l),N];exact(of_decide_eq_true hk1)
  refine SC.joinGen W.in4_2 (fun i s' st=>st.1.typeIs) hat ?_ (An ..) (fun j v G=>?_) (fun s' lt z hacc=>?_) (by rw[K];unfold Ky;exact Ab (Ab (Aj (Eq.symm K)) (Ab (Aj K) hn100)) (by decide))
  ·intro b Y;show b<h5z.objs.size;rw[hsz5];rcases Av.mp Y with rfl|Y
   ·exact Gm _
   ·rcases Av.mp Y with rfl|Y
    ·exact Sx hag
    ·exact Sx (Cv (Aiq.mp Y) hag)
  ·refine Aa fun zk12=>?_;obtain⟨i,_,y,u,t',zz25⟩:=G;exact zk12 ⟨_,_,zz25.2⟩
  ·have hle:lt.map (·.1)=(ys.filter G2).map Fj:=Am4 N hfl rfl (hacc.1.trans K) fun j x h=>hacc.2 j x (Ed.trans h);rw[hle];refine⟨hk3,fun t' k htk=>?_⟩;have Y:=(F.bare.push hgb).movedS z;obtain⟨h6,gs6,dr6,tk6,os6⟩:=s';have d:dr6=s.drawn:=z.drawn;have L:os6=s.os:=z.os;refine Aa fun zk14=>?_;subst d L;have hsn:∀b,b<J->b∉h3z.objs.size::[J]:=fun b Y z=>by
    rcases Av.mp z with e|z
    ·rw[e] at Y;exact Em _ (Cv (Cv (Gm _) hJ3) Y)
    ·rw[A6.mp z] at Y;exact Em _ Y
   have up6:∀b o,b≠q.tab->s.heap.get? b=some o->h6.get? b=some o:=fun b o Y e=>
    z.heap b o (hsn b (by rw[<-hJ];exact D5 e)) (hk5 _ _ (up3 b o Y e))
   have hP6:h6.get? q.tab=some (Qb ps'):=z.heap _ _ (hsn _ (by rw[<-hJ];exact D5 hP2)) (hk5 _ _ hP3');obtain⟨U,ev1,O,na⟩:=I.tabStep (tk:=k) hq (h':=h6) up6 hP6 fun M u new=>by
    rcases hps with rfl|⟨q1,q2,q3,rfl⟩
    ·exact hP3.up u
    ·refine hP3.snoc u ?_;refine Aa fun zk16=>?_;obtain⟨c2z,oc,vs,t,L,hoc,hd,G⟩:=q3;cases L;refine zk16 ?_;have q1:H.objs.size<=c':=q1;have hcn:s.heap.get? c'=none:=Hl (h:=H) upH q1;have hc6:h6.get? c'=some oc:=z.heap _ _ (fun z=>by
      rcases Av.mp z with e|z
      ·rw[e] at q2;exact Em _ q2
      ·rw[A6.mp z,hz] at q1;exact Em _ (Cv (Gm _) q1)) (hk5 _ _ hoc)
     exact⟨c',oc,vs,t,rfl,new _ _ (fun e=>by rw[e] at hcn;rw[hP2] at hcn;cases hcn) hcn hc6,hd,G⟩
   obtain⟨gb,zz2⟩:=O.gens (gs:=gs6) Y;refine zk14 ?_;exact X gb _ _ ((T.tk _).trans (ev1.trans zz2.1)) zz2.2 (.p (.str _ _)) htk
end
end
section
noncomputable def SXQ (c:Cx)(k:Nat)(S:Sg)(t:Env->Sem Flow)(f:SM):Prop:=
 ∀(A:Bs)(G:Env)(g:Heap)(s:Ad)(B:List Addr)(Z:List (Option MO))(J:List (Addr×Hd))(V:List (Option MV))(fl:Fl)(V':List (Option MV))(Z':List (Option MO))(Q:Flow->Ad->Prop)(E:Ac->Ad->Prop),
  Aiw A k G ((G.locals,HK.ns)::J.map kd)->1<=s.toks->St c S G g s B Z J V->f V Z=some (fl,V',Z')->
  KX c S G g s B Z' J V' fl Q->A1 c.M A (t G) Q E s
noncomputable def SEQ (c:Cx)(k:Nat)(S:Sg)(e:Expr)(f:EM):Prop:=
 ∀(A:Bs)(G:Env)(g:Heap)(s:Ad)(B:List Addr)(Z:List (Option MO))(J:List (Addr×Hd))(V:List (Option MV))(d:MV)(Z':List (Option MO))(Q E:Ac->Ad->Prop),
  AOk A k ((G.locals,HK.ns)::J.map kd)->1<=s.toks->St c S G g s B Z J V->f V Z=some (d,Z')->
  KV c S G g s B Z' J V d Q->A1 c.M A (eval e G) Q E s
section
variable {c:Cx}{k:Nat}{S:Sg}
theorem SXQ.of {t:Env->Sem Flow}{f:SM}(h:SXT c k S t f):SXQ c k S t f:=fun A G g s B Z J V fl V' Z' Q E P _ T e X=>h A G g s B Z J V fl V' Z' Q E P T e X
theorem H4 {x:Stmt}{r:List Stmt}{f q:SM}(U:SXQ c k S (exec x) f)(O:SXQ c k S (execs r) q):SXQ c k S (execs (x::r)) (B5 f q):=by
 intro A G g s B Z J V fl V' Z' Q E l d T e X;refine Aw e fun y W e=>?_;refine Ag (Nk d (U A G g s B Z J V y.1 y.2.1 y.2.2 _ _ l d T W fun u s1z L w K I F h=>?_));generalize y.1=z at e F;cases F with
 |next=>exact O A G u s1z L y.2.2 J y.2.1 fl V' Z' Q E l h I e (X.ev K)
 |brk=>exact Al (X.cast e u s1z L _ K I .brk)
 |cont=>exact Al (X.cast e u s1z L _ K I .cont)
 |ret r=>exact Al (X.cast e u s1z L _ K I (.ret r))
noncomputable def A9f (c:Cx)(k:Nat)(S:Sg)(r:Bs->Env->(Ic->Ad->Prop)->Ad->Prop)(f:SM):Prop:=
 ∀(A:Bs)(G:Env)(g:Heap)(s:Ad)(B:List Addr)(Z:Mu)(J:List (Addr×Hd))(V:Sl)(fl:Fl)(V':Sl)(Z':Mu)(R:Ic->Ad->Prop),
   Aiw A k G ((G.locals,HK.ns)::J.map kd)->1<=s.toks->St c S G g s B Z J V->f V Z=some (fl,V',Z')->
   KX c S G g s B Z' J V' fl (fun w s'=>R (.ok w) s')->r A G R s
theorem Aq8 {a:Expr}{body:List Stmt}{pos:Pos}{t:BM}{b:SM}(n:Nat)(d:SB c k S a t)(Y:SXQ c k S (execs body) b):SXQ c k S (exec (.While a body [] pos)) (F8 t b n):=by
 have m:∀n,A9f c k S (fun A G R s=>I1 c.M A (.whileLoop a body [] G) R s) (F8 t b n):=fun n=>by
  induction n with
  |zero=>exact fun A G g s B Z J V fl V' Z' R P _ T e=>A2 e
  |succ n O=>
   refine fun A G g s B Z J V fl V' Z' R P hk T e l=>Aw e fun x W e=>Abn (Nk hk (d A G g s B Z J V x.1 x.2 _ _ P.1 T W fun u s1z L K I N=>?_));generalize x.1=z at e;cases z with
   |true=>
    refine Aw e fun y D e=>Nk N (Y A G u s1z L x.2 J V y.1 y.2.1 y.2.2 _ _ P N I D fun gb j q w i H h o=>?_);have f:=K.trans i;generalize y.1=z at e h;cases h with
    |next=>exact O A G gb j q y.2.2 J y.2.1 fl V' Z' R P o H e (l.ev f)
    |cont=>exact O A G gb j q y.2.2 J y.2.1 fl V' Z' R P o H e (l.ev f)
    |brk=>exact l.cast e gb j q _ f H .next
    |ret r=>exact l.cast e gb j q _ f H (.ret r)
   |false=>exact l.cast e u s1z L _ K I .next
 intro A G g s B Z J V fl V' Z' Q E P hk T e X;exact wpAny_While (m n A G g s B Z J V fl V' Z' _ P hk T e X)
theorem Ip {t m:Expr}{pos:Pos}{a:EM}{f:TM}(M:SEQ c k S m a)(d:STa c k S t f)
  (U:Fo m (some t) pos.line (O0 S)=pure false)(O:Gd [t] m (O0 S)=pure none)
  (C:∀G,(Aec [t] G).map (·.2)=[assign t G]):SXQ c k S (exec (.Assign [t] m pos)) (Cp a f):=by
 intro A G g s B Z J V fl V' Z' Q E l hk T e X;have P:=l.1;refine Aa fun y=>?_;refine Aw e fun z W e=>?_;refine E4 e fun b D e=>?_;cases e;refine y ?_;refine Mp (M A G g s B Z J V z.1 z.2 _ E P hk T W fun u s1z L v Y I F=>?_) ?_ ?_
 ·rw[C];exact d A G u s1z L z.2 J V z.1 v _ _ _ E P I F D fun gb j q h H=>X gb j q _ (Y.trans h) H .next
 ·show Fo m (some t) pos.line G=pure false;rw[I9 T.kind T.sc];exact U
 ·rw[Gr T.kind T.sc];exact O
noncomputable def Mv (a:EM)(y z:Str):EM:=fun V Z=>(a V Z).bind fun x=>x.1.s?.bind fun t=>if(y==z)=false/\t.length+(t.length+1)*z.length<=16777216 then some (.p (.str (J3 t y z)),x.2) else none
theorem Ht {o:Expr}{y z:Str}{i C:Nat}{p l b pos:Pos}{a:EM}(M:SE c k S o a)(h:∀G,Qo o "replace" G (eval o G)=eval o G)(Y:(b.endLine==pos.line)=true):
  SEQ c k S (.Call (.Attribute o "replace" b) [.Constant (.str y) i p,.Constant (.str z) C l] [] pos) (Mv a y z):=by
 intro A G g s B Z J V d Z' Q E P hk T e X;refine Aw e fun x W e=>Aw e fun t D e=>?_;have hz:=(Am e).1;refine Lh (h G) rfl Y Jq F.slot_str_replace F.type_str_replace ?_;refine Nk hk (M A G g s B Z J V x.1 x.2 _ _ P T W fun U s1z L v K I r N=>?_);rw[MV.s_i D] at r;obtain⟨u,rfl⟩:=r.pl;refine⟨Qa _ _ _,(fun a e=>by cases e),?_⟩;refine Gv rfl (Dr rfl ?_);refine Jf ?_;show A1 c.M A (mkText y) _ _ s1z;refine Ail (Jf ?_);show A1 c.M A (mkText z) _ _ _;refine Ail (O7 ?_);refine SC.replace (u:=s1z.toks) (v:=s1z.toks+1) (Lu.mp N) (A8h _) (J6 (Gm _)) hz.1 hz.2 fun f k=>?_;exact X.cast (Am e).2 _ _ _ _ (K.trans (I.tk k)) (I.toks k) (.p (.str _ _))
inductive SlS (s:Ad):Ad->Prop
 |mk {h':Heap}(tk:Nat)(u:Up s.heap h'):SlS s {s with heap:=h',toks:=tk}
theorem SlS.push {s s':Ad}{D:Obj}{k:Nat}(q:SlS s s'):SlS s {s' with heap:=s'.heap.push D,toks:=k}:=by
 cases q with
 |mk tk u=>exact .mk k fun b o q=>E6 _ _ _ _ (u b o q)
theorem SlS.refl {s:Ad}:SlS s s:=.mk s.toks Up.rfl
noncomputable def A13 (a:EM)(H:PM):EM:=fun V Z=>(a V Z).bind fun x=>(H V x.2).bind fun z=>x.1.s?.bind fun t=>z.1.bind fun j=>if t.length<=16777216 then some (.p (.str (Aeg t none (some j))),z.2) else none
theorem A1f (m:Expr){b:Str}{t:Tok}(r:Ac):As8 m (.str b t) r=pure ():=by cases m<;>rfl
theorem Aq6 {m:Expr}{u:Option Expr}{p pos:Pos}{a:EM}{H:PM}(M:SE c k S m a)(h:SP c k S u H):SE c k S (.Subscript m (.Slice none u none p) pos) (A13 a H):=by
 intro A G g s B Z J V d Z' Q E P T e X;refine Aw e fun x W e=>Aw e fun z N e=>Aw e fun t O e=>Aw e fun j r e=>?_;refine As2 (M A G g s B Z J V x.1 x.2 _ E P T W fun U s1z L v K I F=>?_);show A1 c.M A (do
  let l<-Km (Uo none G)
  let u<-holding [l] (Km (Uo u G))
  let s<-holding [l,u] (Km (Uo none G))
  newFields "slice" [l,u,s]) _ E s1z
 refine Ag (Al ?_);refine Ag (Ci (h A G U s1z L x.2 J V z.1 z.2 _ E P I N fun b y C w R o i=>?_));refine Ag (Ci (Al ?_));refine Li ?_;rw[MV.s_i O] at F;rw[r] at i;obtain⟨n,rfl⟩:=F.pl;cases i with
 |int _ Y=>
  refine tail_of_ItemOn (SBG.sliceItem_ns (s:=y) (Fm:=SlS y) (fun s' D k q=>SlS.push q) SlS.refl ?_ (C7▸(Am e).1)) rfl (A1f m);exact fun _ f q=>q.rec fun tk u=>X.cast (Am e).2 _ _ _ _ ((K.trans R).trans (o.ev u tk).2) (o.ev u tk).1 (.p (.str _ _))
end
end
section
structure A4q (c:Cx)(f:Addr)(o:Obj)(fd:J8)(S:Sg)(body:List Stmt)(x:Str):Prop where
 look:c.K.lookup f=some o
 data:o.data=.func fd
 clos:fd.closure=[]
 glob:fd.globals=Di
 blt:fd.builtins=F2
 body:fd.body=.stmts body
 code:codeIn c.K fd.code fd.qualname=true
 kind:fd.scope.kind=.function
 gen:fd.scope.isGenerator=false
 cor:fd.scope.isCoroutine=false
 names:fd.scope.names=S.names
 fits:Ahi S=true
 bind:∀vals:List Ac,A8j fd ⟨vals,[]⟩=(do let t<-A8l vals;pure [(x,t)])
 slots:∃vk,S.vars[0]?=some (x,vk)/\vk≠.cap
section
variable {c:Cx}{k:Nat}{S:Sg}{env:Env}{g:Heap}{s:Ad}{B:List Addr}{Z:Mu}{fs:List (Addr×Hd)}{V:Sl}
noncomputable def Aoz (n:Nat)(f:SF):FM:=fun C Z=>if C.length<=100 then Abg 1 n f [.tup C] Z else none
theorem Azd {f:Addr}{o:Obj}{fd:J8}{S:Sg}{body:List Stmt}{x:Str}{p:SF}(D:A4q c f o fd S body x)(Y:SXE c k S (fun G=>G.code=fd.code∧G.qual=fd.qualname++".<locals>.") (execs body) p):FC c (k+1) f (Aoz S.vars.length p):=by
 intro A g s B Z J C vs r Z' R P F i e Q;have m:=(Am e).1;refine Aw (Am (Am e).2).2 fun y W L=>?_;refine Zf (Ah (Bl _ _) P.depth) (F.keep _ _ (F.top.k _ _ D.look)) D.data D.cor D.gen D.body ((Bbw (F.top.k) D.code).keeps F.keep) ?_;rw[D.bind vs,D.clos,D.glob,D.blt];refine Ag (wpAny_newTuple (Al ?_) (by rw[i.length];unfold Ky;exact Ab m (by decide)));have d:=F;have h:∀l:Obj,Up s.heap (s.heap.push l):=fun l b o e=>E6 _ _ _ _ e;have t:(Mine.grow g s.heap (s.heap.push {cls:=.type "tuple",data:=.seq vs.toArray})).IsTuple s.heap.objs.size vs.toArray:=Vr Ge ⟨_,Cy _ rfl,rfl,_,rfl⟩;have u:=O4 (g:=g) F.keep (h {cls:=.type "tuple",data:=.seq vs.toArray});have F:=F.grow (s':={s with heap:=s.heap.push {cls:=.type "tuple",data:=.seq vs.toArray}}) (h _) F.bare;have i:VRs (Mine.grow g s.heap (s.heap.push {cls:=.type "tuple",data:=.seq vs.toArray})) B [.tup C] [.ref s.heap.objs.size]:=.cons (.tup t (i.up u (Bi _))) .nil;dsimp only at F;generalize w:Mine.grow g s.heap (s.heap.push {cls:=.type "tuple",data:=.seq vs.toArray})=gz at u F i;generalize a:({s with heap:=s.heap.push {cls:=.type "tuple",data:=.seq vs.toArray}}:Ad)=s1z at F ⊢;have q:Ev g s B gz s1z B:=.same u (by rw[<-a]);exact Aal (Anr (ps:=[x]) P F Ac7 (F.enter D.kind D.names D.fits _ rfl) i rfl (fun j x E=>by cases j with
  |zero=>cases E;exact D.slots
  |succ j=>cases E) D.kind Y ⟨rfl,rfl⟩ W L fun N s' v n=>Q N s' v (q.trans n))
end
end
section
noncomputable def Aqf:List MV->Option (List Str)
 |[]=>some []
 | .p (.str y)::r=>(Aqf r).map (y:: ·)
 |_=>none
theorem Ak4:∀{l:List MV} {ys:List Str},Aqf l=some ys->l=ys.map fun y=>MV.p (.str y)
 |[],ys,e=>by cases e;rfl
 | .p (.str y)::r,ys,e=>by
  obtain⟨zs,h,rfl⟩:=qb (show(Aqf r).map (y:: ·)=some ys from e);rw[qk,<-Ak4 h]
 | .p .none::r,ys,e=>by cases e
 | .p (.bool _)::r,ys,e=>by cases e
 | .p (.int _)::r,ys,e=>by cases e
 | .p (.bytes _)::r,ys,e=>by cases e
 | .p (.typ _)::r,ys,e=>by cases e
 | .p (.tuple _)::r,ys,e=>by cases e
 | .p (.list _)::r,ys,e=>by cases e
 | .p (.fn _)::r,ys,e=>by cases e
 | .mu _::r,ys,e=>by cases e
 | .tup _::r,ys,e=>by cases e
noncomputable def Ap6 (i j:Nat)(fr:SM):SF:=fun V Z=>(at? V i).bind fun m=>m.tp?.bind fun l=>(Aqf l).bind fun ys=>if okJ ys=true then(fr (V.set j (some (.p (.str (Afg ys))))) Z).map fun r=>(r.1,r.2.2) else none
section
variable {c:Cx}{k:Nat}{S:Sg}
theorem Aub {q:Dx}(hq:q∈c.tabs){i j:Nat}{vk vk':VK}{M x y:Str}{n1:Nat}{p1 p2 p4 p5 p6 p7 p8 p9 apos pos pf pl pa pc:Pos}{D:M6}{fdc:Ac}{qn:Str}{rest:List Stmt}{fr:SM}
  (hcode:fdc=.ref q.code)(hqual:qn++".<locals>."++"<genexpr>"=q.qual)
  (H:S.vars[i]?=some (M,vk))(b:S.vars[j]?=some (y,vk'))(hvk:vk'≠.cap)(hxa1:(M==("__debug__":Str))=false)(hxa2:(M==("__classdict__":Str))=false)
  (hf1:S.names.lookup ("filter":Str)=some .globalImplicit)(hf2:c.mg "filter"=none)(hf3:c.mb "filter"=some (.type "filter"))
  (hl1:S.names.lookup ("len":Str)=some .globalImplicit)(hl2:c.mg "len"=none)(hl3:c.mb "len"=some (.builtin "len"))
  (hco:D.isCoroutine=false)(hfree:∀y∈D.names,y.2≠.free)(hcell:∀y∈D.names,y.2≠.cell)(t:D.names.lookup (".0":Str)=some NameKind.local)
  (R:D.names.lookup x=some .local)(hkind:D.kind=.function)(hxd:(x==("__debug__":Str))=false)
  (hline:(p6.endLine==p7.line)=true)(hline2:(apos.endLine==pos.line)=true)
  (U:Fo (.Call (.Attribute (.Constant (.str "-") n1 p1) "join" apos)
   [.GeneratorExp (.Call (.Attribute (.Name x p5) "strip" p6) [] [] p7) [⟨.Name x p4,.Call (.Name "filter" pf) [.Name "len" pl,.Name M pa] [] pc,[],0⟩] D p8] [] pos) (some (.Name y p2)) p9.line (O0 S)=pure false)
  (O:Gd [.Name y p2] (.Call (.Attribute (.Constant (.str "-") n1 p1) "join" apos)
   [.GeneratorExp (.Call (.Attribute (.Name x p5) "strip" p6) [] [] p7) [⟨.Name x p4,.Call (.Name "filter" pf) [.Name "len" pl,.Name M pa] [] pc,[],0⟩] D p8] [] pos) (O0 S)=pure none)
  (a:SXQ c k S (execs rest) fr):
  SXE c k S (fun G=>G.code=fdc∧G.qual=qn++".<locals>.") (execs (.Assign [.Name y p2] (.Call (.Attribute (.Constant (.str "-") n1 p1) "join" apos)
   [.GeneratorExp (.Call (.Attribute (.Name x p5) "strip" p6) [] [] p7) [⟨.Name x p4,.Call (.Name "filter" pf) [.Name "len" pl,.Name M pa] [] pc,[],0⟩] D p8] [] pos) p9::rest)) (Ap6 i j fr):=by
 intro A G g s B Z J V fl Z' Q E hP P T e X;refine Aw e fun m em e=>Aw e fun l el e=>?_;rw[MV.tp_i el] at em
 ·have hV:=A0g em;refine Aa fun r=>?_;refine Aw e fun ys W N=>?_;clear e;have el:=Ak4 W;subst el;have hok:=(Am N).1;replace N:=(Am N).2;refine E4 N fun zy49 L e4=>?_;cases e4;refine r ?_;show A1 c.M A (exec _ G >>= _) _ _ _;refine Ag (Mp ?_ ?_ ?_)
  ·refine Avo hq (hP.1.trans hcode) (hP.2▸hqual) P.1 T H hV hok hxa1 hxa2 hf1 hf2 hf3 hl1 hl2 hl3 hco hfree hcell t R hkind hxd hline hline2 (fun _=>rfl) rfl (fun _=>rfl) rfl fun u s1z v K I F z=>?_;show A1 c.M A (assignAll v [assign (.Name y p2) G]) _ _ _;refine Nk (n:=1) (Ab (A3 (Cb _)) z) (Wi (c:=c) (k:=k) (S:=S) b hvk A G u s1z B Z J V (.p (.str (Afg ys))) v _ _ _ _ P.1 I F rfl fun gb d o h C ht2=>?_);exact a A G gb d o Z J _ _ _ _ Q E P ht2 C L fun gc p Y w h3z f rc=>X gc p Y _ w ((K.trans h).trans h3z) f rc
  ·exact(I9 (S:=S) T.kind T.sc _ (some (.Name y p2)) p9.line).trans U
  ·rw[Gr T.kind T.sc];exact O
end
end
section
section
variable {V V' V'':Sl}{Z Z' Z'':Mu}
theorem Bw {f r:SM}(h:f V Z=some (.next,V',Z')):B5 f r V Z=r V' Z':=congrArg (fun z:Option (Fl×Sl×Mu)=>z.bind fun x=>match x.1 with
 | .next=>r x.2.1 x.2.2
 |fl=>some (fl,x.2.1,x.2.2)) h
theorem Fd {f r:SM}{v:MV}(h:f V Z=some (.ret v,V',Z')):B5 f r V Z=some (.ret v,V',Z'):=congrArg (fun z:Option (Fl×Sl×Mu)=>z.bind fun x=>match x.1 with
 | .next=>r x.2.1 x.2.2
 |fl=>some (fl,x.2.1,x.2.2)) h
theorem Ban {t:BM}{a b:SM}{p:Bool}(h:t V Z=some (p,Z'))(I:p=true):ifX t a b V Z=a V Z':=by unfold ifX;rw[h,I];rfl
theorem Bam {t:BM}{a b:SM}{p:Bool}(h:t V Z=some (p,Z'))(I:p=false):ifX t a b V Z=b V Z':=by unfold ifX;rw[h,I];rfl
theorem sN {f r:SM}{R:Option (Fl×Sl×Mu)}(h:f V Z=some (.next,V',Z'))(h':r V' Z'=R):B5 f r V Z=R:=(Bw h).trans h'
theorem iT {t:BM}{a b:SM}{R:Option (Fl×Sl×Mu)}(p:Bool)(h:t V Z=some (p,Z'))(I:p=true)(h':a V Z'=R):ifX t a b V Z=R:=(Ban h I).trans h'
theorem iF {t:BM}{a b:SM}{R:Option (Fl×Sl×Mu)}(p:Bool)(h:t V Z=some (p,Z'))(I:p=false)(h':b V Z'=R):ifX t a b V Z=R:=(Bam h I).trans h'
theorem Fu {a:EM}{t:TM}{x:MV}(h:a V Z=some (x,Z'))(h':t V Z' x=some (V'',Z'')):Cp a t V Z=some (.next,V'',Z''):=by unfold Cp;rw[h];exact congrArg (I0 _) h'
theorem Kw {a:EM}{x:MV}(h:a V Z=some (x,Z')):O6 a V Z=some (.ret x,V,Z'):=congrArg (I0 _) h
theorem R4 {a:EM}{x:MV}(h:a V Z=some (x,Z')):H5 a V Z=some (.next,V,Z'):=congrArg (I0 _) h
theorem Ju {f:List MV->Mu->Option (MV×Mu)}{a:LM}{xs:List MV}{r:Option (MV×Mu)}(h:a V Z=some (xs,Z'))(h':f xs Z'=r):Cm f a V Z=r:=by unfold Cm;rw[h];exact h'
theorem Ae7 {f:FM}{a:LM}{xs:List MV}{r:PV}(h:a V Z=some (xs,Z'))(h':f xs Z'=some (r,Z'')):Cm (fcF f) a V Z=some (.p r,Z''):=Ju h (congrArg (I0 _) h')
theorem Du {f:MV->MV->Mu->Option (MV×Mu)}{a b:EM}{x y:MV}{r:Option (MV×Mu)}(h:a V Z=some (x,Z'))(h':b V Z'=some (y,Z''))(c:f x y Z''=r):bE f a b V Z=r:=by unfold bE;rw[h];show(b V Z').bind _=_;rw[h'];exact c
theorem Alc {f:MV->Mu->Option (MV×Mu)}{a:EM}{x:MV}{r:Option (MV×Mu)}(h:a V Z=some (x,Z'))(h':f x Z'=r):uE f a V Z=r:=by unfold uE;rw[h];exact h'
theorem Bz {a:EM}{b:LM}{x:MV}{l:List MV}(h:a V Z=some (x,Z'))(h':b V Z'=some (l,Z'')):Ak a b V Z=some (x::l,Z''):=by unfold Ak;rw[h];show(b V Z').bind _=_;rw[h'];rfl
theorem No {f:SM}{np n:Nat}{C:List MV}{r:MV}{p:PV}(h:f (L1 n C) Z=some (.ret r,V',Z'))(N:C.length=np)(O:frz Z.length Z' r=some p):Fq np n f C Z=some (p,Z'.take Z.length):=by
 show(if _ then _ else _)=_;rw[if_pos N];show((f _ _).map _).bind _=_;rw[h];exact congrArg (I0 _) O
theorem Aq9 {np n:Nat}{f:SM}{C:List MV}{Z:Mu}{V':Sl}{Z':Mu}(M:C.length=np)(h:f (L1 n C) Z=some (.next,V',Z')):Fq np n f C Z=some (.none,Z'.take Z.length):=by
 show(if _ then _ else _)=_;rw[if_pos M];show((f _ _).map _).bind _=_;rw[h];rfl
theorem FC.none {c:Cx}{k:Nat}{a:Addr}:FC c k a (fun _ _=>H7):=fun _ _ _ _ _ _ _ _ _ _ _ _ _ _ e _=>A2 e
theorem Tr {F:Int->Int->Option Int}{a b:EM}{x y z:Int}(h:a V Z=some (.p (.int x),Z'))(h':b V Z'=some (.p (.int y),Z''))(c:F x y=some z):bE (i2 F) a b V Z=some (.p (.int z),Z''):=Du h h' (congrArg (I0 _) c)
theorem Wu {S:Sg}{i:Nat}{fa:Addr}{t:LM}{spec:Sl->FM}{xs:List MV}{r:PV}(U:V[i]?=some (some (.p (.fn fa))))(h:t V Z=some (xs,Z'))(h':spec (Yk S V) xs Z'=some (r,Z'')):Abi S i fa t spec V Z=some (.p r,Z''):=by
 unfold Abi;rw[Aov U];show(if fa=fa then _ else _)=_;rw[if_pos rfl,h];exact congrArg (I0 _) h'
theorem Ajd {S:List (Option Nat)}{i:Nat}{fa:Addr}{t:LM}{spec:Sl->FM}{xs:List MV}{r:PV}(U:V[i]?=some (some (.p (.fn fa))))(h:t V Z=some (xs,Z'))(h':spec (Pi S V) xs Z'=some (r,Z'')):Ajc S i fa t spec V Z=some (.p r,Z''):=by
 unfold Ajc;rw[Aov U];show(if fa=fa then _ else _)=_;rw[if_pos rfl,h];exact congrArg (I0 _) h'
theorem Yi {f:SM}{np:Nat}{t:Sl}{C:List MV}{r:MV}{p:PV}(h:f ((C.zipIdx 0).foldl (fun V p=>V.set p.2 (some p.1)) t) Z=some (.ret r,V',Z'))(N:C.length=np)(O:frz Z.length Z' r=some p):Sr np f t C Z=some (p,Z'.take Z.length):=by
 show(if _ then _ else _)=_;rw[if_pos N];show((f _ _).map _).bind _=_;rw[h];exact congrArg (I0 _) O
theorem Amm {f:SM}{np:Nat}{t:Sl}{C:List MV}(h:f ((C.zipIdx 0).foldl (fun V p=>V.set p.2 (some p.1)) t) Z=some (.next,V',Z'))(N:C.length=np):Sr np f t C Z=some (.none,Z'.take Z.length):=by
 show(if _ then _ else _)=_;rw[if_pos N];show((f _ _).map _).bind _=_;rw[h];rfl
theorem Axh {a b:EM}{i:Nat}{j:Nat}{z:PV}{l:List PV}(h:a V Z=some (.mu i,Z))(h':b V Z=some (.p (.int (j:Int)),Z))(R:Z[i]?=some (some (.lst l)))(E:j<l.length)(hz:l.length<=16777216):Akx a b V Z (.p z)=some (V,Z.set i (some (.lst (l.set j z)))):=by
 unfold Akx;rw[h];show(b V Z).bind _=_;rw[h'];show(Lq Z i).bind _=_;rw[K4 R];exact if_pos ⟨By _,E3.mpr E,hz⟩
theorem Anv {v:Int}{k:Nat}(Y:v.natAbs<big)(hk:k<=100000):Anu v (k:Int)=some (v*2^k):=if_pos ⟨Y,By _,D7.mpr hk⟩
theorem Anw {v:Int}{k:Nat}:Asb v (k:Int)=some (v.fdiv (2^k)):=if_pos (By _)
theorem Uk {n:Nat}(h:n<=1000000):n<big:=Ah h (Ay (by decide:1000000<2^20) (Er (by decide) (by decide)))
theorem Aj5 {x:MV}{l:List PV}(h:E0 Z x=some l)(N:l.length<=16384):Tw [x] Z=some (.p (.int l.length),Z):=by
 have:Tw [x] Z=(E0 Z x).bind fun l=>if l.length<=16384 then some (.p (.int l.length),Z) else none:=by
  cases x with
  |p x=>cases x with
   |str a=>exact A2 h
   |bytes a=>exact A2 h
   |_=>rfl
  |_=>rfl
 rw[this,h];exact if_pos N
theorem Bak {t:BM}{a b:EM}{r:Option (MV×Mu)}(p:Bool)(h:t V Z=some (p,Z'))(I:p=true)(h':a V Z'=r):iE t a b V Z=r:=by unfold iE;rw[h,I];exact h'
theorem Baj {t:BM}{a b:EM}{r:Option (MV×Mu)}(p:Bool)(h:t V Z=some (p,Z'))(I:p=false)(h':b V Z'=r):iE t a b V Z=r:=by unfold iE;rw[h,I];exact h'
theorem A4d {a:EM}{x:MV}{l:List PV}(h:a V Z=some (x,Z'))(h':E0 Z' x=some l)(N:l.length<=16777216):tL a V Z=some (!l.isEmpty,Z'):=by unfold tL;rw[h];show(E0 Z' x).bind _=_;rw[h'];exact if_pos N
theorem Aet {f:SF}{np n:Nat}{C:List MV}{r:MV}{p:PV}(h:f (L1 n C) Z=some (.ret r,Z'))(N:C.length=np)(O:frz Z.length Z' r=some p):Abg np n f C Z=some (p,Z'.take Z.length):=by
 show(if _ then _ else _)=_;rw[if_pos N,h];exact congrArg (I0 _) O
theorem Qi {T:String}{a:EM}{t:LM}{f:List MV->Mu->Option (MV×Mu)}{x:MV}{xs:List MV}{r:Option (MV×Mu)}(h:a V Z=some (x,Z'))(d:Y6 T Z' x=true)(h':t V Z'=some (xs,Z''))(c:f (x::xs) Z''=r):Gq T a t f V Z=r:=by
 unfold Gq;rw[h];show(if _ then _ else _)=_;rw[if_pos d,h'];exact c
noncomputable def hd? (l:Sl):Option (MV×Sl):=match l with
 |some x::r=>some (x,r)
 |_=>H7
theorem A54 {l r:Sl}{x:MV}(h:hd? l=some (x,r)):l=some x::r:=by
 cases l with
 |nil=>exact A2 h
 |cons a l=>cases a with
  |none=>exact A2 h
  |some a=>exact congrArg (fun q:MV×Sl=>some q.1::q.2) (Af (show some (a,l)=some (x,r) from h))
noncomputable def Ba0 (l:Sl):Bool:=match l with
 |[none]=>true
 |_=>false
theorem A62 {l:Sl}(h:Ba0 l=true):l=[none]:=by
 cases l with
 |nil=>exact nomatch h
 |cons a l=>cases a with
  |none=>cases l with
   |nil=>rfl
   |cons b l=>exact nomatch h
  |some a=>exact nomatch h
noncomputable def A7h (l:Sl):Option (MV×MV):=(hd? l).bind fun a=>(hd? a.2).bind fun b=>if Ba0 b.2=true then some (a.1,b.1) else none
theorem A4b {l:Sl}{q:MV×MV}(h:A7h l=some q):l=[some q.1,some q.2,none]:=
 Aw h fun a W h=>Aw h fun b D h=>by
  rw[A54 (x:=a.1) (r:=a.2) W,A54 (x:=b.1) (r:=b.2) D,A62 (Am h).1,<-Af (Am h).2]
noncomputable def Ba3 (l:Sl):Option (MV×MV×MV):=(hd? l).bind fun a=>(A7h a.2).map fun b=>(a.1,b.1,b.2)
theorem Ba4 {l:Sl}{q:MV×MV×MV}(h:Ba3 l=some q):l=[some q.1,some q.2.1,some q.2.2,none]:=
 Aw h fun a W h=>E4 h fun b D h=>by rw[A54 (x:=a.1) (r:=a.2) W,A4b D,<-h]
theorem Aky {Z:Mu}{i:Nat}{x:Option MO}(h:Z[i]?=some x):Z.set i x=Z:=by
 obtain⟨H,e⟩:=Aq.mp h;rw[<-e,List.set_getElem_self]
theorem Aqm {t:BM}{b:SM}{n:Nat}(p:Bool)(h:t V Z=some (p,Z'))(I:p=false):F8 t b (n+1) V Z=some (.next,V,Z'):=by
 show((t V Z).bind _)=_;rw[h,I];rfl
theorem Bbd {t:BM}{b:SM}{n:Nat}(p:Bool)(h:t V Z=some (p,Z'))(I:p=true)(Y:b V Z'=some (.next,V',Z'')):F8 t b (n+1) V Z=F8 t b n V' Z'':=by
 show((t V Z).bind fun x=>if x.1=true then(b V x.2).bind _ else _)=_;rw[h,I];show((b V Z').bind _)=_;rw[Y];rfl
theorem Axj {f:Bool}{a:EM}{k H:PM}{x:MV}{i j:Option Int}{r:Option (MV×Mu)}(h:a V Z=some (x,Z))(U:k V Z=some (i,Z))(O:H V Z=some (j,Z))(h':Au5 f x i j Z=r):slE f a k H V Z=r:=by
 unfold slE;rw[h];show(k V Z).bind _=_;rw[U];show(H V Z).bind _=_;rw[O];exact h'
theorem Avm {q:IM}{t:TM}{b:SM}{nx:Nx}{n:Nat}{r:Option (Fl×Sl×Mu)}(h:q V Z=some (nx,n,Z'))(h':W3 nx t b (n+1) 0 V Z'=r):R8 q t b V Z=r:=by unfold R8;rw[h];exact h'
theorem Acf {a0:Addr}{a:EM}{t:LM}{f:List MV->Mu->Option (MV×Mu)}{xs:List MV}{r:Option (MV×Mu)}(h:a V Z=some (.p (.fn a0),Z'))(h':t V Z'=some (xs,Z''))(c:f (.p (.fn a0)::xs) Z''=r):Ace a0 a t f V Z=r:=by
 unfold Ace;rw[h];show(if a0=a0 then _ else _)=_;rw[if_pos rfl,h'];exact c
theorem Sh {a:LM}{l:List MV}{x:MV}(h:a V Z=some (l,Z'))(N:l.length<=1000)(R:mkTup l=x):It a V Z=some (x,Z'):=by unfold It;rw[h];exact(if_pos N).trans (congrArg (fun z=>some (z,Z')) R)
theorem Are {a b:Int}(h:b≠0/\b.natAbs<big):Uc [.p (.int a),.p (.int b)] Z=some (.p (.tuple [.int (a.fdiv b),.int (a.fmod b)]),Z):=by
 show(if b≠0/\b.natAbs<big then _ else none)=_;exact if_pos h
theorem Is {u d:Type}{x:Option u}{f:u->d}{a:u}(h:x=some a):x.map f=some (f a):=congrArg (I0 f) h
theorem Gh {u d:Type}{x:Option u}{f:u->Option d}{a:u}{y:Option d}(h:x=some a)(h':f a=y):x.bind f=y:=(congrArg (fun z=>Option.bind z f) h).trans h'
end
end
section
noncomputable def Ut:Dx:=⟨58,54,oS "_digits2int.<locals>.inner"⟩
noncomputable def Uu:Dx:=⟨51,47,oS "_int2digits.<locals>.inner"⟩
noncomputable def Ad5:Dx:=⟨99,95,oS "_platform.<locals>.<genexpr>"⟩
noncomputable def cx (w:F7)(mean:Hs->Option Ac)(c:Option Ac)(tabs:List Dx):Cx where
 prog:=PySem.Challenge.rw_wv0018_02.row.prog
 w:=w
 K:=(hk.heap_1 w.params).tail
 p:=hk.view_1
 loose:=looseW hk.view_1 [oS "twin_re_1_platform",oS "_ver_stages",oS "twin_re_1_smtplib",oS "_twin_re_2"]
 mean:=mean
 mg:=fun x=>(nsIn (hk.heap_1 w.params).tail Di x).join
 mb:=fun x=>if x=oS "__name__" then c else Aij x
 tabs:=tabs
section
variable {w:F7}{mean:Hs->Option Ac}{v0:Option Ac}{tabs:List Dx}
theorem Bax {x:Str}{v:Ac}(h:x≠oS "__name__")(e:Aij x=some v):(cx w mean v0 tabs).mb x=some v:=(if_neg h).trans e
theorem mbD (w:F7)(m:Hs→Option Ac)(c:Option Ac)(t:List Dx){x:Str}{v:Ac}(e:Aij x=some v)(h:x≠oS "__name__":=by decide):(cx w m c t).mb x=some v:=Bax h e
end
end
section
seal SE SL SB SXT STg STs SI ON O1 O2 SP SA SBs SC OI FC
section
variable {w:F7}{mean:Hs->Option Ac}{v0:Option Ac}{tabs:List Dx}
noncomputable def Agv:Sg:={names:=[("word",.local)],vars:=[("word",.loc)]}
noncomputable def Hj:SM:=
 (B5 (O6 (iE (tB (bE neF (vE 0) (kE (.bytes ([]:List UInt8).toArray)))) (bE (i2 Jp) (bE (i2 Us) (bE D6 (vE 0) (uE Ku (kE (.int 1)))) (kE (.int 65))) (kE (.int 5))) (kE (.int 0)))) E5)
theorem Nc:FC (cx w mean v0 tabs) 3 124 (Fq 1 1 Hj):=
 X9 (S:=Agv) (ps:=[(oS "word")]) ⟨rfl,rfl,rfl,rfl,rfl,rfl,rfl,rfl,rfl,rfl,rfl,by decide+kernel,Afl (fun _=>rfl),H6 (by decide+kernel)⟩
 (Bf (Jo (Qr (Gt (vn 0 "word" rfl) Tf (Aty (by decide)) rfl) (Bh (Bh (Ec (vn 0 "word" rfl) (Kc A7 I2) (Dl _ _ (fun _ _ _=>rfl))) A7 Kn) A7 H8) A7)) Ce)
noncomputable def Atu:Sg:={names:=[("num",.local),("val",.local),("AP",.local),("mod",.local),("int",.globalImplicit),("abs",.globalImplicit),("divmod",.globalImplicit)],vars:=[("num",.loc),("val",.loc),("AP",.loc),("mod",.loc)]}
noncomputable def Aav:SM:=
 (B5 (Cp (kE (.bytes ([]:List UInt8).toArray)) (Bc 1)) (B5 (Cp (kE (.bytes ([65,66,67,68,69,70,71,72,73,74,75,76,77,78,79,80]:List UInt8).toArray)) (Bc 2)) (B5 (Cp (Cm A06 (Ak (Cm A46 (Ak (vE 0) Bk)) Bk)) (Bc 0)) (B5 (F8 (tB (vE 0)) (B5 (Cp (Cm Uc (Ak (vE 0) (Ak (kE (.int 16)) Bk))) (T3 2 (Gi (Bc 0) (Gi (Bc 3) Rl)))) (B5 (Cp (bE Fg (slE false (vE 2) (atP (vE 3)) (atP (bE Fg (vE 3) (kE (.int 1))))) (vE 1)) (Bc 1)) E5)) 100) (B5 (O6 (vE 1)) E5)))))
theorem Aq4:FC (cx w mean v0 tabs) 3 80 (Fq 1 4 Aav):=
 X9 (S:=Atu) (ps:=[(oS "num")]) ⟨rfl,rfl,rfl,rfl,rfl,rfl,rfl,rfl,rfl,rfl,rfl,by decide+kernel,Afl (fun _=>rfl),H6 (by decide+kernel)⟩
 (Bf (Bq Tf (tn 1 .loc rfl) rfl rfl (fun _=>rfl)) (Bf (Bq Tf (tn 2 .loc rfl) rfl rfl (fun _=>rfl)) (Bf (Bq (Lx (Ae (Gz (Ae (vn 0 "num" rfl) A5 rfl) A4z rfl rfl (mbD w mean v0 tabs Boot.«abs») (Bg rfl)) A5 rfl) At2 rfl rfl (mbD w mean v0 tabs Boot.«int») (Bg rfl)) (tn 0 .loc rfl) rfl rfl (fun _=>rfl)) (Bf (Aa2 100 (Aax (vn 0 "num" rfl) (fun _ _=>rfl)) (Bf (Bq (Gz (Ae (vn 0 "num" rfl) (Ae A7 A5 rfl) rfl) Aej rfl rfl (mbD w mean v0 tabs Boot.«divmod») (Bg rfl)) (Ko (Ex (tn 0 .loc rfl) (Ex (tn 3 .loc rfl) Na)) (fun _=>rfl)) rfl rfl (fun _=>rfl)) (Bf (Bq (Bh (Pe (f:=false) (vn 2 "AP" rfl) (Ly (vn 3 "mod" rfl)) (Ly (Bh (vn 3 "mod" rfl) A7 D2)) (fun o r=>by first|exact .inl rfl|(cases o<;>first|exact .inl rfl|exact .inr ⟨_,_,rfl⟩))) (vn 1 "val" rfl) D2) (tn 1 .loc rfl) rfl rfl (fun _=>rfl)) Ce))) (Bf (Jo (vn 1 "val" rfl)) Ce)))))
noncomputable def Ama:Sg:={names:=[("a",.local),("b",.local),("n",.local),("pad",.local),("half_n",.local),("mask",.local),("b1",.local),("b2",.local),("q1",.local),("r",.local),("q2",.local),("_DIV_LIMIT",.globalImplicit),("divmod",.globalImplicit),("_div3n2n",.globalImplicit)],vars:=[("a",.loc),("b",.loc),("n",.loc),("pad",.loc),("half_n",.loc),("mask",.loc),("b1",.loc),("b2",.loc),("q1",.loc),("r",.loc),("q2",.loc)]}
noncomputable def Pg:SM:=
 (B5 (ifX (tB (bE (ci fun a b=>decide (a≤b)) (bE (i2 Us) (Gq "int" (vE 0) Bk Aoy) (vE 2)) (kE (.int 4000)))) (B5 (O6 (Cm Uc (Ak (vE 0) (Ak (vE 1) Bk)))) E5) E5) An1)
theorem Ai2:FC (cx w mean v0 tabs) 3 38 (Fq 3 11 Pg):=
 X9 (S:=Ama) (ps:=[(oS "a"),(oS "b"),(oS "n")]) ⟨rfl,rfl,rfl,rfl,rfl,rfl,rfl,rfl,rfl,rfl,rfl,by decide+kernel,Aj6 (fun _ _ _=>rfl),H6 (by decide+kernel)⟩
 (Bf (So (Gt (Bh (G6 (T:="int") (id:="int.bit_length") (vn 0 "a" rfl) A5 Ago Ain PySem.F.slot_int_bit_length PySem.F.type_int_bit_length (fun _=>rfl) (Bg rfl) (by decide) (F3 rfl) rfl) (vn 2 "n" rfl) Kn) (Azt rfl rfl) A9k rfl) (Bf (Jo (Gz (Ae (vn 0 "a" rfl) (Ae (vn 1 "b" rfl) A5 rfl) rfl) Aej rfl rfl (mbD w mean v0 tabs Boot.«divmod») (Bg rfl))) Ce) Ce) Aen)
end
end
section
seal SE SL SB SXT STg STs SI ON O1 O2 SP SA SBs SC OI FC FN SXE
section
variable {w:F7}{mean:Hs->Option Ac}{v0:Option Ac}{tabs:List Dx}
noncomputable def Qs:Sg:={names:=[("digits",.cell),("n",.cell),("inner",.cell),("len",.globalImplicit)],vars:=[("digits",.own),("n",.own),("inner",.own)]}
noncomputable def Dc (z:List (Str×Addr)):Sg:={names:=[("L",.local),("R",.local),("mid",.local),("shift",.local),("digits",.free),("inner",.free),("n",.free)],vars:=[("L",.loc),("R",.loc),("mid",.loc),("shift",.loc),("digits",.cap),("inner",.cap),("n",.cap)],known:=z}
noncomputable def Pf (fa:Addr)(spec:Sl->FM):SM:=
 (B5 (ifX (tB (bE eqF (bE Fg (vE 0) (kE (.int 1))) (vE 1))) (B5 (O6 (bE D6 (vE 4) (vE 0))) E5) E5) (B5 (Cp (bE (i2 Asb) (bE Fg (vE 0) (vE 1)) (kE (.int 1))) (Bc 2)) (B5 (Cp (bE Sa (bE (i2 Us) (vE 2) (vE 0)) (vE 6)) (Bc 3)) (B5 (O6 (bE Fg (bE (i2 Anu) (Abi (Dc []) 5 fa (Ak (vE 2) (Ak (vE 1) Bk)) spec) (vE 3)) (Abi (Dc []) 5 fa (Ak (vE 0) (Ak (vE 2) Bk)) spec))) E5))))
noncomputable def Fy (fa:Addr):Nat->Sl->FM
 |0=>fun _ _ _=>none
 |n+1=>Sr 2 (Pf fa (Fy fa n))
noncomputable def Nb (fa:Addr):SM:=
 (B5 (O6 (iE (tL (vE 0)) (Ajc [none,none,none,none,some 0,some 2,some 1] 2 fa (Ak (kE (.int 0)) (Ak (Cm Tw (Ak (vE 0) Bk)) Bk)) (Fy fa 12)) (kE (.int 0)))) E5)
theorem Aa3 {f:SF}(u:Ut∈tabs)(O:∀fa V Z fl Z',f V Z=some (fl,Z')->∃V',Adw 2 Nb fa V Z=some (fl,V',Z')):FC (cx w mean v0 tabs) 21 59 (Abg 2 3 f):=by
 refine Agg (k:=20) (S:=Qs) (ps:=[(oS "digits"),(oS "n")]) ⟨rfl,rfl,rfl,rfl,rfl,rfl,rfl,rfl,rfl,rfl,rfl,by decide+kernel,Afm (fun _ _=>rfl),H6 (by decide+kernel)⟩ ?_;refine Aok (q:=Ut) u (i:=2) (vk:=.own) (fr:=Nb) rfl (by decide+kernel) (by decide+kernel) rfl rfl (fun _=>rfl) rfl (by decide) (fun x R r=>?_) rfl (fun fa d J y g c z vs t W hd F m=>?_) O
 ·simp only[Av,Le,or_false] at R;rcases R with rfl|rfl|rfl|rfl|rfl|rfl|rfl<;>first|(exact absurd r (by decide))|exact⟨0,rfl⟩|exact⟨2,rfl⟩|exact⟨1,rfl⟩
 ·have b:(∃a,z.lookup (oS "digits")=some a)∧(∃a,z.lookup (oS "inner")=some a)∧(∃a,z.lookup (oS "n")=some a):=⟨m ((oS "digits"),Gp) (by simp) rfl,m ((oS "inner"),Gp) (by simp) rfl,m ((oS "n"),Gp) (by simp) rfl⟩;have H:∀(i:Nat) (x:Str),(Dc z).vars[i]?=some (x,.cap)->∃a,(Dc z).known.lookup x=some a:=fun i x h=>X8.get (P:=fun _ p=>p.2=VK.cap->∃a,z.lookup p.1=some a) (l:=(Dc z).vars) (.cons (fun e=>nomatch e) (.cons (fun e=>nomatch e) (.cons (fun e=>nomatch e) (.cons (fun e=>nomatch e) (.cons (fun _=>b.1) (.cons (fun _=>b.2.1) (.cons (fun _=>b.2.2) .nil))))))) h rfl;have o:∀(i:Nat) (x:Str),(Dc z).vars[i]?≠some (x,.own):=fun i x h=>X8.get (P:=fun _ p=>p.2=VK.own->False) (l:=(Dc z).vars) (.cons (fun e=>nomatch e) (.cons (fun e=>nomatch e) (.cons (fun e=>nomatch e) (.cons (fun e=>nomatch e) (.cons (fun e=>nomatch e) (.cons (fun e=>nomatch e) (.cons (fun e=>nomatch e) .nil))))))) h rfl;have v:Aai {Qs with known:=z} (Dc z) [none,none,none,none,some 0,some 2,some 1]:=⟨rfl,fun i x vk h=>X8.get (P:=fun i p=>match p.2 with
   | .cap=>(∃j,([none,none,none,none,some 0,some 2,some 1]:List (Option Nat))[i]?=some (some j)/\(Qs).vars[j]?=some (p.1,.own))/\∃a,z.lookup p.1=some a
   |_=>([none,none,none,none,some 0,some 2,some 1]:List (Option Nat))[i]?=some none) (l:=(Dc z).vars) (.cons rfl (.cons rfl (.cons rfl (.cons rfl (.cons ⟨⟨0,rfl,rfl⟩,b.1⟩ (.cons ⟨⟨2,rfl,rfl⟩,b.2.1⟩ (.cons ⟨⟨1,rfl,rfl⟩,b.2.2⟩ .nil))))))) h⟩
  refine Af0 (fa:=fa) (iS:=Dc z) (spec:=Fy fa) (fun n=>?_) fun s=>?_
  ·induction n with
   |zero=>exact Aoh
   |succ n O=>
    exact Atr (ps:=[(oS "L"),(oS "R")]) {look:=Ja,data:=rfl,clos:=rfl,glob:=rfl,blt:=rfl,body:=rfl,code:=Zt W hd F,kind:=rfl,gen:=rfl,cor:=rfl,names:=rfl,nocell:=rfl,nodup:=by simp only[Dc];decide+kernel,vars:=by simp only[Dc];decide+kernel,bind:=Afm (fun _ _=>rfl),slots:=H6 (S:=Dc z) (show Acy (Dc z) [(oS "L"),(oS "R")]=true from(by decide+kernel:Acy (Dc []) [(oS "L"),(oS "R")]=true))}
     (let spec:=Fy fa n;(Bf (So (Gt (Bh (vn 0 "L" rfl) A7 D2) (vn 1 "R" rfl) (Lm (Br _ _)) rfl) (Bf (Jo (Ec (vn 4 "digits" rfl) (vn 0 "L" rfl) (Dl _ _ (fun _ _ _=>rfl)))) Ce) Ce) (Bf (Bq (Bh (Bh (vn 0 "L" rfl) (vn 1 "R" rfl) D2) A7 Agn) (tn 2 .loc rfl) rfl rfl (fun _=>rfl)) (Bf (Bq (Bh (Bh (vn 2 "mid" rfl) (vn 0 "L" rfl) Kn) (vn 6 "n" rfl) My) (tn 3 .loc rfl) rfl rfl (fun _=>rfl)) (Bf (Jo (Bh (Bh (Wh (S:=Dc z) (i:=5) rfl (Ae (vn 2 "mid" rfl) (Ae (vn 1 "R" rfl) A5 rfl) rfl) O Ja rfl H o (Bg rfl) (by decide) (by decide)) (vn 3 "shift" rfl) Agm) (Wh (S:=Dc z) (i:=5) rfl (Ae (vn 0 "L" rfl) (Ae (vn 2 "mid" rfl) A5 rfl) rfl) O Ja rfl H o (Bg rfl) (by decide) (by decide)) D2)) Ce)))))
  ·exact(Bf (Jo (Qr (A44 (vn 0 "digits" rfl) (fun _ _=>rfl)) (Aiz (S':=Dc z) (i:=2) (caps:=[none,none,none,none,some 0,some 2,some 1]) rfl (Ae A7 (Ae (Gz (Ae (vn 0 "digits" rfl) A5 rfl) Qq rfl rfl (mbD w mean v0 tabs Boot.«len») (Bg rfl)) A5 rfl) rfl) (FN.mono (s 12) (by decide)) Ja rfl v rfl (Bg rfl) (by decide) (by decide)) A7)) Ce)
noncomputable def Qu:Sg:={names:=[("a",.local),("n",.cell),("a_digits",.cell),("inner",.cell),("len",.globalImplicit)],vars:=[("a",.loc),("n",.own),("a_digits",.own),("inner",.own)]}
noncomputable def Dd (z:List (Str×Addr)):Sg:={names:=[("x",.local),("L",.local),("R",.local),("mid",.local),("shift",.local),("upper",.local),("lower",.local),("a_digits",.free),("inner",.free),("n",.free)],vars:=[("x",.loc),("L",.loc),("R",.loc),("mid",.loc),("shift",.loc),("upper",.loc),("lower",.loc),("a_digits",.cap),("inner",.cap),("n",.cap)],known:=z}
noncomputable def Lz (fa:Addr)(spec:Sl->FM):SM:=
 (B5 (ifX (tB (bE eqF (bE Fg (vE 1) (kE (.int 1))) (vE 2))) (B5 (Cp (vE 0) (Akx (vE 7) (vE 1))) (B5 A39 E5)) E5) (B5 (Cp (bE (i2 Asb) (bE Fg (vE 1) (vE 2)) (kE (.int 1))) (Bc 3)) (B5 (Cp (bE Sa (bE (i2 Us) (vE 3) (vE 1)) (vE 9)) (Bc 4)) (B5 (Cp (bE (i2 Asb) (vE 0) (vE 4)) (Bc 5)) (B5 (Cp (bE (i2 Bbg) (vE 0) (bE (i2 Anu) (vE 5) (vE 4))) (Bc 6)) (B5 (H5 (Abi (Dd []) 8 fa (Ak (vE 6) (Ak (vE 1) (Ak (vE 3) Bk))) spec)) (B5 (H5 (Abi (Dd []) 8 fa (Ak (vE 5) (Ak (vE 3) (Ak (vE 2) Bk))) spec)) E5)))))))
noncomputable def Hz (fa:Addr):Nat->Sl->FM
 |0=>fun _ _ _=>none
 |n+1=>Sr 3 (Lz fa (Hz fa n))
noncomputable def Iq (fa:Addr):SM:=
 (B5 (ifX (tB (vE 0)) (B5 (H5 (Ajc [none,none,none,none,none,none,none,some 2,some 3,some 1] 3 fa (Ak (vE 0) (Ak (kE (.int 0)) (Ak (Cm Tw (Ak (vE 2) Bk)) Bk))) (Hz fa 12))) E5) E5) (B5 (O6 (vE 2)) E5))
noncomputable def Th:SM:=
 (Cp (bE Ar6 (Mr (Ak (kE (.int 0)) Bk)) (bE (i2 Nu) (bE (i2 Us) (bE Fg (Gq "int" (vE 0) Bk Aoy) (vE 1)) (kE (.int 1))) (vE 1))) (Bc 2))
theorem Aa5 {f:SF}(u:Uu∈tabs)(O:∀fa V Z fl Z',f V Z=some (fl,Z')->∃V',Adw 3 Iq fa V Z=some (fl,V',Z')):FC (cx w mean v0 tabs) 21 52 (Abg 2 4 (Ba2 Th f)):=by
 refine Agg (k:=20) (S:=Qu) (ps:=[(oS "a"),(oS "n")]) ⟨rfl,rfl,rfl,rfl,rfl,rfl,rfl,rfl,rfl,rfl,rfl,by decide+kernel,Afm (fun _ _=>rfl),H6 (by decide+kernel)⟩ ?_;refine Aua (Bq (Bh (M9 (Ae A7 A5 rfl)) (Bh (Bh (Bh (G6 (T:="int") (id:="int.bit_length") (vn 0 "a" rfl) A5 Ago Ain PySem.F.slot_int_bit_length PySem.F.type_int_bit_length (fun _=>rfl) (Bg rfl) (by decide) (F3 rfl) rfl) (vn 1 "n" rfl) D2) A7 Kn) (vn 1 "n" rfl) Nn) Al5) (tn 2 .own rfl) rfl rfl (fun _=>rfl)) ?_;refine Aok (q:=Uu) u (i:=3) (vk:=.own) (fr:=Iq) rfl (by decide+kernel) (by decide+kernel) rfl rfl (fun _=>rfl) rfl (by decide) (fun x R r=>?_) rfl (fun fa d J y g c z vs t W hd F m=>?_) O
 ·simp only[Av,Le,or_false] at R;rcases R with rfl|rfl|rfl|rfl|rfl|rfl|rfl|rfl|rfl|rfl<;>first|(exact absurd r (by decide))|exact⟨2,rfl⟩|exact⟨3,rfl⟩|exact⟨1,rfl⟩
 ·have b:(∃a,z.lookup (oS "a_digits")=some a)∧(∃a,z.lookup (oS "inner")=some a)∧(∃a,z.lookup (oS "n")=some a):=⟨m ((oS "a_digits"),Gp) (by simp) rfl,m ((oS "inner"),Gp) (by simp) rfl,m ((oS "n"),Gp) (by simp) rfl⟩;have H:∀(i:Nat) (x:Str),(Dd z).vars[i]?=some (x,.cap)->∃a,(Dd z).known.lookup x=some a:=fun i x h=>X8.get (P:=fun _ p=>p.2=VK.cap->∃a,z.lookup p.1=some a) (l:=(Dd z).vars) (.cons (fun e=>nomatch e) (.cons (fun e=>nomatch e) (.cons (fun e=>nomatch e) (.cons (fun e=>nomatch e) (.cons (fun e=>nomatch e) (.cons (fun e=>nomatch e) (.cons (fun e=>nomatch e) (.cons (fun _=>b.1) (.cons (fun _=>b.2.1) (.cons (fun _=>b.2.2) .nil)))))))))) h rfl;have o:∀(i:Nat) (x:Str),(Dd z).vars[i]?≠some (x,.own):=fun i x h=>X8.get (P:=fun _ p=>p.2=VK.own->False) (l:=(Dd z).vars) (.cons (fun e=>nomatch e) (.cons (fun e=>nomatch e) (.cons (fun e=>nomatch e) (.cons (fun e=>nomatch e) (.cons (fun e=>nomatch e) (.cons (fun e=>nomatch e) (.cons (fun e=>nomatch e) (.cons (fun e=>nomatch e) (.cons (fun e=>nomatch e) (.cons (fun e=>nomatch e) .nil)))))))))) h rfl;have v:Aai {Qu with known:=z} (Dd z) [none,none,none,none,none,none,none,some 2,some 3,some 1]:=⟨rfl,fun i x vk h=>X8.get (P:=fun i p=>match p.2 with
   | .cap=>(∃j,([none,none,none,none,none,none,none,some 2,some 3,some 1]:List (Option Nat))[i]?=some (some j)/\(Qu).vars[j]?=some (p.1,.own))/\∃a,z.lookup p.1=some a
   |_=>([none,none,none,none,none,none,none,some 2,some 3,some 1]:List (Option Nat))[i]?=some none) (l:=(Dd z).vars) (.cons rfl (.cons rfl (.cons rfl (.cons rfl (.cons rfl (.cons rfl (.cons rfl (.cons ⟨⟨2,rfl,rfl⟩,b.1⟩ (.cons ⟨⟨3,rfl,rfl⟩,b.2.1⟩ (.cons ⟨⟨1,rfl,rfl⟩,b.2.2⟩ .nil)))))))))) h⟩
  refine Af0 (fa:=fa) (iS:=Dd z) (spec:=Hz fa) (fun n=>?_) fun s=>?_
  ·induction n with
   |zero=>exact Aoh
   |succ n O=>
    exact Atr (ps:=[(oS "x"),(oS "L"),(oS "R")]) {look:=Ja,data:=rfl,clos:=rfl,glob:=rfl,blt:=rfl,body:=rfl,code:=Zt W hd F,kind:=rfl,gen:=rfl,cor:=rfl,names:=rfl,nocell:=rfl,nodup:=by simp only[Dd];decide+kernel,vars:=by simp only[Dd];decide+kernel,bind:=Aj6 (fun _ _ _=>rfl),slots:=H6 (S:=Dd z) (show Acy (Dd z) [(oS "x"),(oS "L"),(oS "R")]=true from(by decide+kernel:Acy (Dd []) [(oS "x"),(oS "L"),(oS "R")]=true))}
     (let spec:=Hz fa n;(Bf (So (Gt (Bh (vn 1 "L" rfl) A7 D2) (vn 2 "R" rfl) (Lm (Br _ _)) rfl) (Bf (Bq (vn 0 "x" rfl) (Aaf (vn 7 "a_digits" rfl) (vn 1 "L" rfl) (fun _ _ _=>rfl)) rfl rfl (fun _=>rfl)) (Bf Azz Ce)) Ce) (Bf (Bq (Bh (Bh (vn 1 "L" rfl) (vn 2 "R" rfl) D2) A7 Agn) (tn 3 .loc rfl) rfl rfl (fun _=>rfl)) (Bf (Bq (Bh (Bh (vn 3 "mid" rfl) (vn 1 "L" rfl) Kn) (vn 9 "n" rfl) My) (tn 4 .loc rfl) rfl rfl (fun _=>rfl)) (Bf (Bq (Bh (vn 0 "x" rfl) (vn 4 "shift" rfl) Agn) (tn 5 .loc rfl) rfl rfl (fun _=>rfl)) (Bf (Bq (Bh (vn 0 "x" rfl) (Bh (vn 5 "upper" rfl) (vn 4 "shift" rfl) Agm) Azl) (tn 6 .loc rfl) rfl rfl (fun _=>rfl)) (Bf (Js (Wh (S:=Dd z) (i:=8) rfl (Ae (vn 6 "lower" rfl) (Ae (vn 1 "L" rfl) (Ae (vn 3 "mid" rfl) A5 rfl) rfl) rfl) O Ja rfl H o (Bg rfl) (by decide) (by decide)) rfl) (Bf (Js (Wh (S:=Dd z) (i:=8) rfl (Ae (vn 5 "upper" rfl) (Ae (vn 3 "mid" rfl) (Ae (vn 2 "R" rfl) A5 rfl) rfl) rfl) O Ja rfl H o (Bg rfl) (by decide) (by decide)) rfl) Ce))))))))
  ·exact(Bf (So (Aax (vn 0 "a" rfl) (fun _ _=>rfl)) (Bf (Js (Aiz (S':=Dd z) (i:=3) (caps:=[none,none,none,none,none,none,none,some 2,some 3,some 1]) rfl (Ae (vn 0 "a" rfl) (Ae A7 (Ae (Gz (Ae (vn 2 "a_digits" rfl) A5 rfl) Qq rfl rfl (mbD w mean v0 tabs Boot.«len») (Bg rfl)) A5 rfl) rfl) rfl) (FN.mono (s 12) (by decide)) Ja rfl v rfl (Bg rfl) (by decide) (by decide)) rfl) Ce) Ce) (Bf (Jo (vn 2 "a_digits" rfl)) Ce))
end
end
theorem Avp {Z:Mu}{x:MV}{l:List PV}(h:E0 Z x=some l)(i:Int):D6 x (.p (.int i)) Z=if l.length<=16777216 then(idx i l.length).bind fun j=>(l[j]?).map fun y=>(.p y,Z) else none:=by
 cases x with
 |p v=>cases v<;>first|(cases h;rfl)|cases h
 |mu j=>
  show(E0 Z (.mu j)).bind _=_;rw[h];rfl
 |tup l=>cases h
noncomputable def L7 (n:Nat):List Int->Int
 |[]=>0
 |d::r=>d+2^n*L7 n r
theorem Aib (n:Nat):L7 n []=0:=rfl
theorem Aia (n:Nat)(d:Int)(r:List Int):L7 n (d::r)=d+2^n*L7 n r:=rfl
theorem Qm (n:Nat):∀(l r:List Int),L7 n (l++r)=L7 n l+2^(n*l.length)*L7 n r
 |[],r=>by simp[Aib]
 |d::l,r=>by
  rw[qo,Aia,Aia,Qm n l r,qi,Lk,Cu (n*l.length) n,Mx,Ayh,S6,O9]
noncomputable def Ae0 (fa:Addr)(dg:MV)(n:Int):Sl:=[none,none,none,none,some dg,some (.p (.fn fa)),some (.p (.int n))]
theorem Au8 (fa:Addr)(spec:Sl->FM)(L:Nat)(l:List Int)(n:Int)(dg:MV)(Z:Mu)(E:L<l.length)(hz:l.length<=16384)(hd:E0 Z dg=some (l.map PV.int)):
  Sr 2 (Pf fa spec) (Ae0 fa dg n) [.p (.int L),.p (.int ((L:Int)+1))] Z=some (.int l[L],Z.take Z.length):=by
 have M:=Avp hd (L:Int);rw[Bn,if_pos (Ab hz (by decide)),show idx (L:Int) l.length=some L from(if_neg (K8.mpr (By _))).trans (if_pos (E3.mpr E))] at M;replace M:_=some (MV.p (.int l[L]),Z):=M.trans (by show I0 _ (l.map PV.int)[L]?=_;rw[B0,Bx E];rfl);exact Yi (r:=.p (.int l[L])) (Fd (iT ((L:Int)+1==(L:Int)+1) rfl (beq_self_eq_true _) (Fd (Kw (Du rfl rfl M))))) rfl rfl
theorem Aj9 {L R M:Nat}(d:M=(L+R)/2):((L:Int)+R).fdiv 2=M:=by
 rw[E9 _ (by decide),d];rfl
theorem Awo {L M R:Nat}(g:L<M)(f:M<R):((L:Int)+1==(R:Int))=false:=beq_false_of_ne fun h=>J6 (Ah g f) (Ie.mp h)
theorem Apy {L M R n:Nat}(g:L<M)(f:M<R)(Q:R<=16384)(K:n<=1000):A1m ((M:Int)-L) n=some (((M-L)*n:Nat):Int):=by
 rw[<-A8z (Ba g)];exact(if_pos ⟨Uk (Ab (Dy _ _) (Ab (Ba f) (Ab Q (by decide)))),Uk (Ab K (by decide))⟩).trans (congrArg some (Aif _ _).symm)
theorem Au9 (fa:Addr)(spec:Sl->FM)(L M R:Nat)(l:List Int)(n:Nat)(dg:MV)(Z:Mu)(g:L<M)(f:M<R)(d:M=(L+R)/2)(Q:R<=16384)(K:n<=1000)(i v:Int)
  (e:spec (Ae0 fa dg n) [.p (.int M),.p (.int R)] Z=some (.int i,Z))(c:spec (Ae0 fa dg n) [.p (.int L),.p (.int M)] Z=some (.int v,Z))(Y:i.natAbs<big)(b:(M-L)*n<=100000):
  Sr 2 (Pf fa spec) (Ae0 fa dg n) [.p (.int L),.p (.int R)] Z=some (.int (i*2^((M-L)*n)+v),Z.take Z.length):=
 Yi (r:=.p (.int (i*2^((M-L)*n)+v))) (sN (iF ((L:Int)+1==(R:Int)) rfl (Awo g f) rfl) (sN (Fu (Tr rfl rfl (Anw.trans (congrArg some (Aj9 d)))) rfl)
  (sN (Fu (Du (Tr rfl rfl rfl) rfl (Is (Apy g f Q K))) rfl)
   (Fd (Kw (Du (Tr (Wu rfl rfl e) rfl (Anv Y b)) (Wu rfl rfl c) rfl)))))) rfl rfl
theorem Ac8 (n:Nat):∀r:List Int,(∀d∈r,0<=d/\d<2^n)->0<=L7 n r/\L7 n r<2^(n*r.length)
 |[],_=>by rw[show n*([]:List Int).length=0 from rfl];exact⟨Agb 0,Int.one_pos⟩
 |d::r,h=>by
  have I:=Ac8 n r fun x R=>h x (.tail _ R);have C:(0:Int)<2^n:=Jy (by decide);have e:(2:Int)^(n*(d::r).length)=2^n*2^(n*r.length):=by rw[qi,Lk,Cu,Mx]
  have m:0<=2^n*L7 n r:=Xu (Co C) I.1;have b:2^n*(L7 n r+1)<=2^n*2^(n*r.length):=Int.mul_le_mul_of_nonneg_left I.2 (Co C);rw[e];rw[Ayh,Int.mul_one] at b;exact⟨K6 (h d (.head _)).1 m,D9 (Int.add_lt_add_right (h d (.head _)).2 _) (by rwa[I5])⟩
theorem Ax5 {n:Nat}{r:List Int}(h:∀d∈r,0<=d/\d<2^n)(K:n*r.length<=900):(L7 n r).natAbs<big:=by
 have B:=Ac8 n r h;have q2:(2:Int)^(n*r.length)<=2^900:=by exact_mod_cast Er (by decide) K
 have q3:(2:Int)^900<(big:Int):=by unfold big;exact_mod_cast La (by decide) (by decide)
 have:=D9 B.2 (Fh q2 (Co q3));have B1:=B.1;clear B q2 q3 K h;lia
theorem Afs {L R m:Nat}(h:L<R)(Q:¬R=L+1)(C:R-L<=2^(m+1)):L<(L+R)/2/\(L+R)/2<R/\R-(L+R)/2<=2^m/\(L+R)/2-L<=2^m:=by
 rw[Uw] at C;have z:=Aou h;generalize 2^m=p at C |-
 have W:=Aih (L+R) 2;have D:=Cr (L+R) (show 0<2 by decide);have a:R<=L+p*2:=N6.mp C;have N:L<(L+R)/2:=(Ov (by decide)).mpr (Ab (Aj (show(L+1)*2=L+(L+2) by rw[Ayp,Dj,Cu 1 (L+1)])) (Ar (Ea h (Vd Q)) L));have g:R<=p+(L+R)/2:=N6.mp ((Ov (by decide)).mpr (by rw[Nat.sub_mul,Ayp R];exact P3 (Ab (Bp a R) (Aj (Dg L (p*2) R)))));have F:(L+R)/2<=p+L:=Ai (Fa (by clear z Q W D N g;lia));clear W D;generalize (L+R)/2=M at *;exact⟨N,z,P3 g,P3 F⟩
theorem Ao4 (fa:Addr)(l:List Int)(n:Nat)(dg:MV)(Z:Mu)(hz:l.length<=1000)(hd:E0 Z dg=some (l.map PV.int))(m L:Nat)(O:L+1<=l.length):
  Fy fa (m+1) (Ae0 fa dg n) [.p (.int L),.p (.int (L+1:Nat))] Z=some (.int (L7 n ((l.drop L).take (L+1-L))),Z):=by
 have:=Au8 fa (Fy fa m) L l n dg Z O (Ab hz (by decide)) hd;rw[Eg] at this;have F:L7 n ((l.drop L).take (L+1-L))=l[L]:=by
  rw[Cn,Cc O,P7,List.take_zero];show _+2^n*0=_;rw[Int.mul_zero,N3]
 rw[F];exact this
theorem Abo (fa:Addr)(l:List Int)(n:Nat)(dg:MV)(Z:Mu)(hz:l.length<=1000)(hd:E0 Z dg=some (l.map PV.int))(K:n*l.length<=900)(U:1<=n)(N:∀d∈l,0<=d/\d<2^n):
  ∀(m L R:Nat),L<R->R<=l.length->R-L<=2^m->Fy fa (m+1) (Ae0 fa dg n) [.p (.int L),.p (.int R)] Z=some (.int (L7 n ((l.drop L).take (R-L))),Z)
 |0,L,R,h,O,C=>by
  have Q:R=L+1:=by clear O K U N hz hd;simp only[Nat.pow_zero] at C;exact A9u h C
  subst Q;exact Ao4 fa l n dg Z hz hd 0 L O
 |m+1,L,R,h,O,C=>by
  by_cases Q:R=L+1
  ·subst Q;exact Ao4 fa l n dg Z hz hd (m+1) L O
  ·have F:=Afs h Q C;have v:=Abo fa l n dg Z hz hd K U N m ((L+R)/2) R F.2.1 O F.2.2.1;have k:=Abo fa l n dg Z hz hd K U N m L ((L+R)/2) F.1 (Ab (Ba F.2.1) O) F.2.2.2;generalize e:(L+R)/2=M at *;have G:((l.drop M).take (R-M)).length<=l.length:=Ab (List.length_take_le _ _) (Ab (Dy _ _) O);have c:=Ax5 (fun d hd=>N d (Atk (Atl hd))) (Ab (Au n G) K);have I:1<=l.length:=Ab (Ft (Ah (Cb _) h)) O;have j:n<=900:=Ab (T7 n I) K;have b:(M-L)*n<=100000:=Ab (Ab (Gn n (Ab (Dy _ _) (Ab (Ba F.2.1) O))) (Aj (Ib _ _))) (Ab K (by decide));have:=Au9 fa (Fy fa (m+1)) L M R l n dg Z F.1 F.2.1 e.symm (Ab O (Ab hz (by decide))) (Ab j (by decide)) _ _ v k c b;rw[Eg] at this;show Sr 2 _ _ _ _=_;rw[this];have a:(l.drop L).take (R-L)=(l.drop L).take (M-L)++(l.drop M).take (R-M):=by
    rw[<-As0 (Ba F.2.1) (Ba F.1),Cu,List.take_add,Wc,C8 (Ba F.1)]
   have S:((l.drop L).take (M-L)).length=M-L:=by rw[Ef,D0];exact H1 (Go (Ab (Ba F.2.1) O) L)
   have f:L7 n ((l.drop L).take (R-L))=L7 n ((l.drop M).take (R-M))*2^((M-L)*n)+L7 n ((l.drop L).take (M-L)):=by
    rw[a,Qm,S,I5,J5,Ib n]
   rw[f]
section
theorem FC.of {c:Cx}{k:Nat}{a:Addr}{spec spec':FM}(h:FC c k a spec)(H:∀C Z x,spec' C Z=some x->spec C Z=some x):FC c k a spec':=
 fun A g s B Z J C vs r Z' R P F i e Q=>h A g s B Z J C vs r Z' R P F i (H _ _ _ e) Q
noncomputable def Ao3 (n:Int)(l:List Int):Bool:=decide (1<=n)&&decide (n.toNat*l.length<=900)&&l.all fun d=>decide (0<=d/\d<2^n.toNat)
noncomputable def A0n (dg:MV)(n:Int)(Z:Mu):Option Int:=(E0 Z dg).bind fun p=>(Ts p).bind fun l=>if Ao3 n l=true then some (L7 n.toNat l) else none
noncomputable def A0l:FM:=fun xs Z=>(Bbb xs).bind fun q=>q.2.i?.bind fun n=>(A0n q.1 n Z).map fun v=>(.int v,Z)
noncomputable def Bb3:SF:=fun V Z=>(A7h V).bind fun q=>q.2.i?.bind fun n=>(A0n q.1 n Z).map fun v=>(.ret (.p (.int v)),Z)
theorem A6p:∀{n:Nat},n<=900->n<=2^11:=fun h=>Ab h (by decide)
theorem Bae {fa:Addr}{dg:MV}{n:Int}{Z:Mu}{v:Int}(e:A0n dg n Z=some v):Adw 2 Nb fa [some dg,some (.p (.int n)),none] Z=some (.ret (.p (.int v)),[some dg,some (.p (.int n)),some (.p (.fn fa))],Z):=
 Aw e fun p U e=>Aw e fun l O e=>by
  have L:=(Am e).1;rw[Aho O] at U;rw[<-Af (Am e).2];unfold Ao3 at L;rw[A0,A0] at L;have o:=of_decide_eq_true L.1.1;have B:=of_decide_eq_true L.1.2;have s:∀d∈l,0<=d/\d<2^n.toNat:=fun d hd=>of_decide_eq_true (Bd.mp L.2 d hd);clear L e O;obtain⟨k,rfl⟩:=Ek (Fh (by decide) o);have u:1<=k:=D7.mp o;have h:l.length<=900:=Ab (N8 _ u) B;cases l with
  |nil=>exact Fd (Kw (Baj false (A4d rfl U (by decide)) rfl rfl))
  |cons d r=>
   have M:=Abo fa (d::r) k dg Z (Ab h (by decide)) U B u s 11 0 (d::r).length (Nat.succ_pos _) (At _) (A6p h);rw[Gy,Ob,Eg] at M;have z:((d::r).map PV.int).length<=16384:=by rw[Bn];exact Ab h (by decide)
   have N:=Aj5 U z;rw[Bn] at N;exact Fd (Kw (Bak true (A4d rfl U (Ab z (by decide))) rfl (Ajd rfl (Bz rfl (Bz (Ju (Bz rfl rfl) N) rfl)) M)))
theorem A5p:∀fa V Z fl Z',Bb3 V Z=some (fl,Z')->∃V',Adw 2 Nb fa V Z=some (fl,V',Z'):=
 fun fa V Z fl Z' e=>Aw e fun q W e=>Aw e fun n D e=>E4 e fun v N e=>by
  cases e;rw[A4b W,MV.i_i D];exact⟨_,Bae N⟩
section
variable {w:F7}{mean:Hs->Option Ac}{v0:Option Ac}{tabs:List Dx}
theorem Adx (u:Ut∈tabs):FC (cx w mean v0 tabs) 21 59 A0l:=(Aa3 u A5p).of fun C Z x e=>Aw e fun q W e=>Aw e fun n D e=>E4 e fun v N e=>by
 rw[Bbc (x:=q.1) (y:=q.2) W,MV.i_i D,<-e];refine(Aet (r:=.p (.int v)) (Z':=Z) (Is N) rfl rfl).trans ?_;rw[Eg]
end
end
noncomputable def Hk (n:Nat):Nat->Int->List Int
 |0,_=>[]
 |k+1,x=>x%2^n::Hk n k (x/2^n)
theorem Avc (n:Nat)(x:Int):Hk n 0 x=[]:=rfl
theorem Aha (n k:Nat)(x:Int):Hk n (k+1) x=x%2^n::Hk n k (x/2^n):=rfl
theorem Ke (n:Nat):∀(k:Nat) (x:Int),(Hk n k x).length=k
 |0,_=>rfl
 |k+1,x=>by simp[Aha,Ke n k]
theorem Abq (n:Nat):∀(k:Nat) (x:Int),∀d∈Hk n k x,0<=d/\d<2^n
 |0,_,d,h=>by cases h
 |k+1,x,d,h=>by
  have I:(0:Int)<2^n:=Jy (by decide);rcases Av.mp h with rfl|h
  ·exact⟨Me _ (F9 I),Mn _ I⟩
  ·exact Abq n k _ d h
theorem Ajp (n:Nat):∀(k:Nat) (x:Int),0<=x->x<2^(n*k)->L7 n (Hk n k x)=x
 |0,x,U,O=>by
  simp at O;simp only[Avc,Aib];lia
 |k+1,x,U,O=>by
  have I:(0:Int)<2^n:=Jy (by decide);have C:x/2^n<2^(n*k):=by
   rw[Lk,Cu,Mx] at O;exact V5 I (by rw[J5];exact O)
  simp only[Aha,Aia];rw[Ajp n k _ (Va U (Co I)) C];exact V6 x (2^n)
theorem Abr (n:Nat):∀(a b:Nat) (x:Int),Hk n (a+b) x=Hk n a x++Hk n b (x/2^(n*a))
 |0,b,x=>by simp[Avc]
 |a+1,b,x=>by
  rw[show a+1+b=(a+b)+1 from(Dg _ _ _)];simp only[Aha,qo];rw[Abr n a b,Aqq (Co (Jy (by decide))),<-Mx,Lk,Cu]
theorem Ajo (n:Nat):∀(a:Nat) (x:Int),Hk n a (x%2^(n*a))=Hk n a x
 |0,x=>rfl
 |a+1,x=>by
  simp only[Aha];have I:(0:Int)<2^n:=Jy (by decide);have e:(2:Int)^(n*(a+1))=2^n*2^(n*a):=by rw[Lk,Cu,Mx]
  rw[e];have U:x%(2^n*2^(n*a))%2^n=x%2^n:=Int.emod_emod_of_dvd _ (Int.dvd_mul_right _ _);have O:x%(2^n*2^(n*a))/2^n=x/2^n%2^(n*a):=by
   rw[(Ass x (2^n*2^(n*a))),Ass,<-Aqq (Co I),O9,A2z,<-Int.mul_neg,Ate _ _ (F9 I),A2z]
  rw[U,O,Ajo n a]
theorem Amk (a b:Nat):Builtin.bitAnd (a:Int) (b:Int)=((a&&& b:Nat):Int):=rfl
theorem Auj (x s:Nat):x&&& (x/2^s*2^s)=x/2^s*2^s:=by
 apply Nat.eq_of_testBit_eq;intro i;rw[Nat.testBit_and,<-Nat.shiftRight_eq_div_pow,<-Nat.shiftLeft_eq,Nat.testBit_shiftLeft,Nat.testBit_shiftRight];by_cases h:s<=i
 ·simp[h,show s+(i-s)=i from(C8 h)]
 ·simp[h]
theorem Aml (x:Int)(s:Nat)(h:0<=x):Aef x (x.fdiv (2^s)*2^s)=x%2^s:=by
 obtain⟨n,rfl⟩:=Ek h;rw[E9 _ (Co (Jy (by decide)))];have e:((n:Int)/2^s*2^s)=((n/2^s*2^s:Nat):Int):=by push_cast;rfl
 rw[bitXor_and,e,Amk,Auj,<-e,Ass];have:=J5 (2^s) ((n:Int)/2^s);lia
noncomputable def S4 (a:List Int)(L:Nat)(t:List Int):List Int:=a.take L++t++a.drop (L+t.length)
theorem Ald {a:List Int}{L:Nat}{t:List Int}(h:L+t.length<=a.length):(S4 a L t).length=a.length:=by
 unfold S4;rw[As,As,Ef,D0,H1 (Bm h),N7 h]
theorem Ax3 (a:List Int)(L:Nat)(x:Int)(h:L<a.length):S4 a L [x]=a.set L x:=by
 unfold S4;rw[List.set_eq_take_append_cons_drop,if_pos h];simp
theorem Ax4 (a:List Int)(L:Nat)(d1 c:List Int)(h:L+d1.length+c.length<=a.length):S4 (S4 a L d1) (L+d1.length) c=S4 a L (d1++c):=by
 unfold S4;have U:(a.take L++d1).length=L+d1.length:=by rw[As,Ef,H1 (Bm (Bm h))]
 rw[Ad8 (Aj (Eq.symm U)),Cj (Aj U),List.drop_append,U];rw[Gx (Ab (Aj U) (Bl _ _)),qm,Wc];simp only[Az,As]
 congr 4
 rw[Cn,Dj]
noncomputable def Afe (fa:Addr)(i:Nat)(n:Int):Sl:=[none,none,none,none,none,none,none,some (.mu i),some (.p (.fn fa)),some (.p (.int n))]
theorem Avq (fa:Addr)(spec:Sl->FM)(x:Int)(L:Nat)(a:List Int)(n:Int)(i:Nat)(Z:Mu)(E:L<a.length)(hz:a.length<=16384)(hd:Z[i]?=some (some (.lst (a.map PV.int)))):
  Sr 3 (Lz fa spec) (Afe fa i n) [.p (.int x),.p (.int L),.p (.int ((L:Int)+1))] Z=some (.none,Z.set i (some (.lst ((a.set L x).map PV.int)))):=by
 refine(Yi (r:=.p .none) (Fd (iT ((L:Int)+1==(L:Int)+1) rfl (beq_self_eq_true _) (sN (Fu rfl (Axh rfl rfl hd (by rw[Bn];exact E) (by rw[Bn];exact Ab hz (by decide)))) (Fd rfl)))) rfl rfl).trans ?_;rw[Cj (by rw[Mc];exact At _),<-List.map_set]
theorem Aue {a b:Int}(h:0<=a)(h':a<=b):a.natAbs<=b.natAbs:=(A91 h h')
theorem Avr (fa:Addr)(spec:Sl->FM)(x:Int)(L M R:Nat)(n i:Nat)(Z a h:Mu)(u:0<=x)(l:x.natAbs<big)(g:L<M)(f:M<R)(d:M=(L+R)/2)(Q:R<=16384)(K:n<=1000)(b:(M-L)*n<=100000)
  (e:spec (Afe fa i n) [.p (.int (x%2^((M-L)*n))),.p (.int L),.p (.int M)] Z=some (.none,a))(c:spec (Afe fa i n) [.p (.int (x/2^((M-L)*n))),.p (.int M),.p (.int R)] a=some (.none,h))(N:h.length=Z.length):
  Sr 3 (Lz fa spec) (Afe fa i n) [.p (.int x),.p (.int L),.p (.int R)] Z=some (.none,h):=by
 have I:(0:Int)<=2^((M-L)*n):=Co (Jy (by decide));have k:x.fdiv (2^((M-L)*n))=x/2^((M-L)*n):=E9 _ I;have B:Aef x (x/2^((M-L)*n)*2^((M-L)*n))=x%2^((M-L)*n):=by rw[<-k];exact Aml x _ u
 have v:(x/2^((M-L)*n)).natAbs<big:=Ah (Aue (Va u I) (Int.ediv_le_self _ u)) l;refine(Amm (sN (iF ((L:Int)+1==(R:Int)) rfl (Awo g f) rfl) (sN (Fu (Tr rfl rfl (Anw.trans (congrArg some (Aj9 d)))) rfl)
  (sN (Fu (Du (Tr rfl rfl rfl) rfl (Is (Apy g f Q K))) rfl) (sN (Fu (Tr rfl rfl (Anw.trans (congrArg some k))) rfl)
   (sN (Fu (Tr rfl (Tr rfl rfl (Anv v b)) (congrArg some B)) rfl) (sN (R4 (Wu rfl rfl e)) (sN (R4 (Wu rfl rfl c)) rfl))))))) rfl).trans ?_
 rw[Cj (Aj N)]
theorem Apm (fa:Addr)(n i:Nat)(sp:Sl->FM)(L:Nat)(x:Int)(a:List Int)(Z:Mu)(h2:L+1<=a.length)(h3:a.length<=900)(h4:0<=x)(h5:x<2^(n*(L+1-L)))(h6:Z[i]?=some (some (.lst (a.map PV.int)))):
  Sr 3 (Lz fa sp) (Afe fa i n) [.p (.int x),.p (.int L),.p (.int ((L+1:Nat):Int))] Z=some (.none,Z.set i (some (.lst ((S4 a L (Hk n (L+1-L) x)).map PV.int)))):=by
 rw[Cn] at h5 |-
 rw[Nat.mul_one] at h5;have hd:Hk n 1 x=[x]:=congrArg (fun y=>[y]) (Adf h4 h5);rw[hd,Ax3 a L x h2];exact Avq fa sp x L a n i Z h2 (Ab h3 (by decide)) h6
theorem Ab4 (fa:Addr)(n i:Nat)(U:1<=n):
  ∀(m L R:Nat)(x:Int)(a:List Int)(Z:Mu),L<R->R<=a.length->a.length<=900->n*a.length<=900->R-L<=2^m->0<=x->x<2^(n*(R-L))->Z[i]?=some (some (.lst (a.map PV.int)))->
   Hz fa (m+1) (Afe fa i n) [.p (.int x),.p (.int L),.p (.int R)] Z=some (.none,Z.set i (some (.lst ((S4 a L (Hk n (R-L) x)).map PV.int))))
 |0,L,R,x,a,Z,h,O,hz,Y,C,u,e,hd=>by
  have Q:R=L+1:=Eh (N6.mp C) h;subst Q;exact Apm fa n i _ L x a Z O hz u e hd
 |m+1,L,R,x,a,Z,h,O,hz,Y,C,u,e,hd=>by
  by_cases Q:R=L+1
  ·subst Q;exact Apm fa n i _ L x a Z O hz u e hd
  ·have H:i<Z.length:=(Aq.mp hd).1;have F:=Afs h Q C;generalize d:(L+R)/2=M at F;have p:R-M+(M-L)=R-L:=As0 (Ba F.2.1) (Ba F.1);have c:(0:Int)<2^((M-L)*n):=Jy (by decide);have I:1<=a.length:=Ab (Ft (Ah (Cb _) h)) O;have o:M<=a.length:=Ab (Ba F.2.1) O;have j:n<=900:=Ab (T7 n I) Y;have q:x%2^((M-L)*n)<2^(n*(M-L)):=by rw[Ib n];exact Mn _ c
   have f:x/2^((M-L)*n)<2^(n*(R-M)):=V5 c (by rw[Ib (M-L) n,<-Mx,<-Nat.mul_add,p];exact e);have v:=Ab4 fa n i U m L M (x%2^((M-L)*n)) a Z F.1 o hz Y F.2.2.2 (Me _ (F9 c)) q hd;have D:(S4 a L (Hk n (M-L) (x%2^((M-L)*n)))).length=a.length:=Ald (by rw[Ke,C8 (Ba F.1)];exact o);have k:=Ab4 fa n i U m M R (x/2^((M-L)*n)) (S4 a L (Hk n (M-L) (x%2^((M-L)*n)))) (Z.set i (some (.lst ((S4 a L (Hk n (M-L) (x%2^((M-L)*n)))).map PV.int)))) F.2.1 (D.symm▸O) (D.symm▸hz) (D.symm▸Y) F.2.2.1 (Va u (Co c)) f (Fe H);have b:(M-L)*n<=100000:=Ab (Ab (Gn n (Ab (Dy _ _) o)) (Aj (Ib _ _))) (Ab Y (by decide));have l:x.natAbs<big:=by
    have q2:(2:Int)^(n*(R-L))<=2^900:=by exact_mod_cast Er (by decide) (Ab (Au n (Ab (Dy _ _) O)) Y)
    have q3:(2:Int)^900<(big:Int):=by unfold big;exact_mod_cast La (by decide) (by decide)
    have:=D9 e (Fh q2 (Co q3));clear v k D b q f hd e q2 q3;exact Aun (by assumption) this
   have st:=Avr fa (Hz fa (m+1)) x L M R n i Z _ _ u l F.1 F.2.1 d.symm (Ab O (Ab hz (by decide))) (Ab j (by decide)) b v k (by simp);show Sr 3 _ _ _ _=_;rw[st,List.set_set];have g:S4 (S4 a L (Hk n (M-L) (x%2^((M-L)*n)))) M (Hk n (R-M) (x/2^((M-L)*n)))=S4 a L (Hk n (R-L) x):=by
    have r:L+(M-L)=M:=C8 (Ba F.1);have:=Ax4 a L (Hk n (M-L) (x%2^((M-L)*n))) (Hk n (R-M) (x/2^((M-L)*n))) (by rw[Ke,Ke,r,C8 (Ba F.2.1)];exact O);rw[Ke,r] at this;rw[this,<-p,Cu (R-M),Abr,<-Ajo n (M-L) x,Ib n (M-L)]
   rw[g]
section
theorem Apv (a:Int)(h:0<=a):a<2^(Bu a):=by
 obtain⟨k,rfl⟩:=Ek h;unfold Bu;split
 ·rename_i I;rw[show k=0 from Ie.mp (Ew I)];exact Int.one_pos
 ·have U:=E3.mpr (Nat.lt_log2_self (n:=k));rw[Aig] at U;exact U
noncomputable def J4 (a:Int)(n:Nat):Nat:=(Bu a+n-1)/n
noncomputable def W5 (a n:Int):Bool:=decide (0<=a/\1<=n/\n<=900/\n.toNat*J4 a n.toNat<=900/\J4 a n.toNat<=200)
noncomputable def A55:FM:=fun xs Z=>(Amz xs).bind fun r=>if W5 r.1 r.2=true then some (.list ((Hk r.2.toNat (J4 r.1 r.2.toNat) r.1).map PV.int),Z) else none
noncomputable def Bb8:SF:=fun V Z=>(Ba3 V).bind fun q=>q.1.i?.bind fun a=>q.2.1.i?.bind fun n=>q.2.2.m?.bind fun i=>(Lq Z i).bind fun p=>
 if W5 a n=true/\Ts p=some (Bb (J4 a n.toNat) (0:Int)) then some (.ret (.mu i),Z.set i (some (.lst ((Hk n.toNat (J4 a n.toNat) a).map PV.int)))) else none
theorem Uf:∀l:List Int,Ts (l.map PV.int)=some l
 |[]=>rfl
 |a::r=>Is (Uf r)
theorem Avb {a:Int}{n:Nat}(h:a≠0)(K:1<=n):1<=J4 a n:=by
 unfold J4 Bu;rw[if_neg (by simpa using h)];exact(Ov (Ai (Dt K))).mpr (by rw[Ayq,Dg];exact Br _ _)
theorem Ae3 {a:Int}{n:Nat}(h:0<=a)(K:1<=n):a<2^(n*J4 a n):=by
 have U:=Apv a h;have O:Bu a<=n*J4 a n:=by
  unfold J4;exact K9 (b:=n) (Nat.le_of_pred_lt (Ah (Aj (Aih (Bu a+n-1) n).symm) (Lr (Cr _ K) _)))
 have C:(2:Int)^(Bu a)<=2^(n*J4 a n):=by exact_mod_cast Er (by decide) O
 exact D9 U C
theorem Am0 {a n:Int}(h:W5 a n=true):0<=a/\∃k:Nat,n=(k:Int)/\1<=k/\k<=900/\k*J4 a k<=900/\J4 a k<=200:=by
 unfold W5 at h;have c:=of_decide_eq_true h;obtain⟨k,rfl⟩:=Ek (Fh (by decide) c.2.1);exact⟨c.1,k,rfl,D7.mp c.2.1,D7.mp c.2.2.1,c.2.2.2.1,c.2.2.2.2⟩
theorem A5q (k:Nat)(h:1<=k):J4 0 k=0:=A8f (by show 0+k-1<k;rw[Cg];exact Nat.sub_lt h (by decide))
theorem A2m (K:Nat)(l:List Int)(h:l.length=K):S4 (Bb K 0) 0 l=l:=by
 unfold S4;rw[h];simp
theorem Bai {fa:Addr}{a n:Int}{i:Nat}{Z:Mu}(w:W5 a n=true)(hd:Z[i]?=some (some (.lst ((Bb (J4 a n.toNat) (0:Int)).map PV.int)))):
  Adw 3 Iq fa [some (.p (.int a)),some (.p (.int n)),some (.mu i),none] Z=
   some (.ret (.mu i),[some (.p (.int a)),some (.p (.int n)),some (.mu i),some (.p (.fn fa))],Z.set i (some (.lst ((Hk n.toNat (J4 a n.toNat) a).map PV.int)))):=by
 refine Aa fun P=>?_;obtain⟨o,k,rfl,B,s,v,c⟩:=Am0 w;refine P ?_;show _=some (_,_,Z.set i (some (.lst ((Hk k (J4 a k) a).map PV.int))));replace hd:Z[i]?=some (some (.lst ((Bb (J4 a k) (0:Int)).map PV.int))):=hd;by_cases M:a=0
 ·subst M;rw[A5q k B] at hd |-
  have I:Adw 3 Iq fa [some (.p (.int 0)),some (.p (.int k)),some (.mu i),none] Z=some (.ret (.mu i),[some (.p (.int 0)),some (.p (.int k)),some (.mu i),some (.p (.fn fa))],Z):=by
   unfold Adw Iq;exact sN (iF false rfl rfl rfl) (Fd (Kw rfl))
  exact I.trans (congrArg (fun z=>some (Fl.ret (MV.mu i),_,z)) (Aky hd).symm)
 ·have hk:=Avb M B;have O:=Ae3 o B;generalize J4 a k=K at hd v c hk O |-
  have E:(Bb K (0:Int)).length=K:=Asy;have l:=Ab4 fa k i B 11 0 K a (Bb K 0) Z hk (Aj E.symm) (E.symm▸Ab c (by decide)) (E.symm▸v) (Ab c (by decide)) o (by rw[Ob];exact O) hd;rw[Ob,A2m K _ (Ke ..)] at l;have N:=Aj5 (x:=.mu i) (show E0 Z (.mu i)=some ((Bb K (0:Int)).map PV.int) by dsimp only[E0];rw[hd]) (by rw[Bn,E];exact Ab c (by decide));rw[Bn,E] at N;unfold Adw Iq;exact sN (iT (a != 0) rfl (bne_iff_ne.mpr M) (sN (R4 (Ajd rfl (Bz rfl (Bz rfl (Bz (Ju (Bz rfl rfl) N) rfl))) l)) rfl)) (Fd (Kw rfl))
theorem A56:∀fa V Z fl Z',Bb8 V Z=some (fl,Z')->∃V',Adw 3 Iq fa V Z=some (fl,V',Z'):=
 fun fa V Z fl Z' e=>Aw e fun q W e=>Aw e fun a D e=>Aw e fun n N e=>Aw e fun i O e=>Aw e fun p r e=>by
  rw[Ba4 W,MV.i_i D,MV.i_i N,MV.m_i O];have hd:=Jx r;rw[Aho (Am e).1.2] at hd;exact⟨_,(Bai (Am e).1.1 hd).trans (congrArg (fun z:Fl×Mu=>some (z.1,_,z.2)) (Af (Am e).2))⟩
section
variable {w:F7}{mean:Hs->Option Ac}{v0:Option Ac}{tabs:List Dx}
theorem A0p {a:Int}{k:Nat}(h:1<=k):((Bu a:Int)+(k:Int)-1).fdiv k=(J4 a k:Int):=by
 rw[E9 _ (By _),<-A8y,show(1:Int)=((1:Nat):Int) from rfl,<-A8z (Ab h (Br _ _))];rfl
theorem Aw6 (n:Nat):(Bb n [PV.int 0]).flatten=(Bb n (0:Int)).map PV.int:=by
 induction n with
 |zero=>rfl
 |succ k J=>rw[Je,Aas,J];rfl
theorem Ad0 (u:Uu∈tabs):FC (cx w mean v0 tabs) 21 52 A55:=(Aa5 u A56).of fun C Z x e=>Aw e fun r W e=>by
 rw[Afd (a:=r.1) (b:=r.2) W,<-Af (Am e).2];refine Aa fun y=>?_;obtain⟨a,n⟩:=r;obtain⟨o,k,rfl,B,s,v,c⟩:=Am0 (Am e).1;refine y ?_;have hz: -1000000<=(J4 a k:Int)/\(J4 a k:Int)<=1000000/\[PV.int 0].length*((J4 a k:Int)).toNat<=256:=⟨Fh (by decide) (By _),D7.mpr (Ab c (by decide)),by show 1*J4 a k<=256;rw[Ayq];exact Ab c (by decide)⟩;have p0:Th [some (.p (.int a)),some (.p (.int k)),none,none] Z=some (.next,[some (.p (.int a)),some (.p (.int k)),some (.mu Z.length),none],Z++[some (.lst ((Bb (J4 a k) (0:Int)).map PV.int))]):=by
  rw[<-Aw6];exact Fu (Du rfl (Tr (Tr (Du (Qi rfl rfl rfl rfl) rfl rfl) rfl rfl) rfl ((if_pos ⟨A4h.mpr (Ga B),Uk (Ab s (by decide))⟩).trans (congrArg some (A0p B)))) (if_pos hz)) rfl
 have M:(Z++[some (MO.lst ((Bb (J4 a k) (0:Int)).map PV.int))])[Z.length]?=some (some (.lst ((Bb (J4 a k) (0:Int)).map PV.int))):=Gl;have l:(Z++[some (MO.lst ((Bb (J4 a k) (0:Int)).map PV.int))]).set Z.length (some (.lst ((Hk k (J4 a k) a).map PV.int)))=Z++[some (.lst ((Hk k (J4 a k) a).map PV.int))]:=by simp
 refine(Aet (p:=.list ((Hk k (J4 a k) a).map PV.int)) (r:=.mu Z.length) (Z':=Z++[some (.lst ((Hk k (J4 a k) a).map PV.int))]) (Gh p0 (Gh (K4 M) ((if_pos ⟨(Am e).1,Uf _⟩).trans (congrArg (fun z=>some (Fl.ret (MV.mu Z.length),z)) l)))) rfl ?_).trans ?_
 ·show(if _ then _ else _)=_;rw[if_pos (At _),Gl]
 ·exact congrArg (fun z=>some (PV.list ((Hk k (J4 a k) a).map PV.int),z)) K1
end
end
section
seal SE SL SB SXT STg STs SI ON O1 O2 SP SA SBs SC OI FC
section
variable {w:F7}{mean:Hs->Option Ac}{v0:Option Ac}{tabs:List Dx}
noncomputable def Adq:Sg:={names:=[("a",.local),("b",.local),("n",.local),("a_digits",.local),("r",.local),("q_digits",.local),("a_digit",.local),("q_digit",.local),("q",.local),("_int2digits",.globalImplicit),("reversed",.globalImplicit),("_div2n1n",.globalImplicit),("_digits2int",.globalImplicit)],vars:=[("a",.loc),("b",.loc),("n",.loc),("a_digits",.loc),("r",.loc),("q_digits",.loc),("a_digit",.loc),("q_digit",.loc),("q",.loc)]}
noncomputable def Qt:SM:=
 (B5 (Cp (Gq "int" (vE 1) Bk Aoy) (Bc 2)) (B5 (Cp (Cm (fcF A55) (Ak (vE 0) (Ak (vE 2) Bk))) (Bc 3)) (B5 (Cp (kE (.int 0)) (Bc 4)) (B5 (Cp (K3 Bk) (Bc 5)) (B5 (R8 (Np (Ak (vE 3) Bk) A7b) (Bc 6) (B5 (Cp (Cm (fcF (Fq 3 11 Pg)) (Ak (bE Fg (bE (i2 Anu) (vE 4) (vE 2)) (vE 6)) (Ak (vE 1) (Ak (vE 2) Bk)))) (T3 2 (Gi (Bc 7) (Gi (Bc 4) Rl)))) (B5 (H5 (Gq "list" (vE 5) (Ak (vE 7) Bk) Ix)) E5))) (B5 (H5 (Gq "list" (vE 5) Bk Acu)) (B5 (Cp (Cm (fcF A0l) (Ak (vE 5) (Ak (vE 2) Bk))) (Bc 8)) (B5 (O6 (It (Ak (vE 8) (Ak (vE 4) Bk)))) E5))))))))
theorem Aa4 (u:Ut∈tabs)(B:Uu∈tabs):FC (cx w mean v0 tabs) 25 66 (Fq 2 9 Qt):=
 X9 (S:=Adq) (ps:=[(oS "a"),(oS "b")]) ⟨rfl,rfl,rfl,rfl,rfl,rfl,rfl,rfl,rfl,rfl,rfl,by decide+kernel,Afm (fun _ _=>rfl),H6 (by decide+kernel)⟩
 (Bf (Bq (G6 (T:="int") (id:="int.bit_length") (vn 1 "b" rfl) A5 Ago Ain PySem.F.slot_int_bit_length PySem.F.type_int_bit_length (fun _=>rfl) (Bg rfl) (by decide) (F3 rfl) rfl) (tn 2 .loc rfl) rfl rfl (fun _=>rfl)) (Bf (Bq (Hg (Ae (vn 0 "a" rfl) (Ae (vn 2 "n" rfl) A5 rfl) rfl) (Kt (FC.mono (Ad0 B) (by decide))) rfl rfl rfl rfl (Bg rfl)) (tn 3 .loc rfl) rfl rfl (fun _=>rfl)) (Bf (Bq A7 (tn 4 .loc rfl) rfl rfl (fun _=>rfl)) (Bf (Bq (Ji A5) (tn 5 .loc rfl) rfl rfl (fun _=>rfl)) (Bf (Yc (Ox (Ae (vn 3 "a_digits" rfl) A5 rfl) A4y rfl rfl (mbD w mean v0 tabs Boot.«reversed») (Bg rfl)) (tn 6 .loc rfl) (Bf (Bq (Hg (Ae (Bh (Bh (vn 4 "r" rfl) (vn 2 "n" rfl) Agm) (vn 6 "a_digit" rfl) D2) (Ae (vn 1 "b" rfl) (Ae (vn 2 "n" rfl) A5 rfl) rfl) rfl) (Kt (FC.mono Ai2 (by decide))) rfl rfl rfl rfl (Bg rfl)) (Ko (Ex (tn 7 .loc rfl) (Ex (tn 4 .loc rfl) Na)) (fun _=>rfl)) rfl rfl (fun _=>rfl)) (Bf (Js (G6 (T:="list") (id:="list.append") (vn 5 "q_digits" rfl) (Ae (vn 7 "q_digit" rfl) A5 rfl) Ln Dv PySem.F.slot_list_append PySem.F.type_list_append (fun _=>rfl) (Bg rfl) (by decide) (F3 rfl) rfl) rfl) Ce)) (fun _ _=>rfl)) (Bf (Js (G6 (T:="list") (id:="list.reverse") (vn 5 "q_digits" rfl) A5 Al7 Dv PySem.F.slot_list_reverse PySem.F.type_list_reverse (fun _=>rfl) (Bg rfl) (by decide) (F3 rfl) rfl) rfl) (Bf (Bq (Hg (Ae (vn 5 "q_digits" rfl) (Ae (vn 2 "n" rfl) A5 rfl) rfl) (Kt (FC.mono (Adx u) (by decide))) rfl rfl rfl rfl (Bg rfl)) (tn 8 .loc rfl) rfl rfl (fun _=>rfl)) (Bf (Jo (En (Ae (vn 8 "q" rfl) (Ae (vn 4 "r" rfl) A5 rfl) rfl))) Ce))))))))
end
end
noncomputable def S1 (b:Int)(n:Nat):List Int->Int->List Int×Int
 |[],r=>([],r)
 |d::t,r=>let q:=(r*2^n+d)/b
  let x:=S1 b n t ((r*2^n+d)%b)
  (q::x.1,x.2)
theorem A6l (b:Int)(n:Nat)(r:Int):S1 b n [] r=([],r):=rfl
theorem Awa (b:Int)(n:Nat)(d:Int)(t:List Int)(r:Int):S1 b n (d::t) r=((r*2^n+d)/b::(S1 b n t ((r*2^n+d)%b)).1,(S1 b n t ((r*2^n+d)%b)).2):=rfl
theorem Tv (b:Int)(n:Nat):∀(t:List Int) (r:Int),(S1 b n t r).1.length=t.length
 |[],r=>rfl
 |d::t,r=>by simp[Awa,Tv b n t]
theorem Afk (b:Int)(n:Nat)(Y:0<b):∀(t:List Int) (r:Int),0<=r->r<b->(∀d∈t,0<=d/\d<2^n)->
  (0<=(S1 b n t r).2/\(S1 b n t r).2<b)/\(∀q∈(S1 b n t r).1,0<=q/\q<2^n)/\r*2^(n*t.length)+L7 n t.reverse=b*L7 n (S1 b n t r).1.reverse+(S1 b n t r).2
 |[],r,U,O,_=>by simp[A6l,Aib];exact⟨U,O⟩
 |d::t,r,U,O,hd=>by
  obtain⟨w,c⟩:=hd d (.head _);have I:(0:Int)<2^n:=Jy (by decide);have e:0<=r*2^n:=Xu U (Co I);have m:(r+1)*2^n<=b*2^n:=Jk (D9 O (Int.le_of_eq rfl)) (Co I);rw[Sw,Fs] at m;refine Aa fun X=>?_;obtain⟨o,i2,a⟩:=Afk b n Y t ((r*2^n+d)%b) (Me _ (F9 Y)) (Mn _ Y) fun x R=>hd x (.tail _ R);refine X ?_;refine⟨o,fun q hq=>?_,?_⟩
  ·rcases Av.mp hq with rfl|hq
   ·refine⟨Va (K6 e w) (Co Y),?_⟩;exact V5 Y (show r*2^n+d<2^n*b by rw[J5 (2^n) b];exact D9 (Ay2 c _) m)
   ·exact i2 q hq
  ·simp only[Awa,Iz,qi];rw[Qm,Qm,H3,H3,Tv];have i:∀x:Int,L7 n [x]=x:=fun x=>by simp[Aia,Aib]
   rw[i,i];have e0:=V6 (r*2^n+d) b;generalize (r*2^n+d)/b=Q at e0 |-
   generalize (r*2^n+d)%b=r' at e0 a |-
   generalize L7 n (S1 b n t r').1.reverse=Vv at a |-
   generalize (S1 b n t r').2=z at a |-
   generalize L7 n t.reverse=W at a |-
   have f:(2:Int)^(n*(t.length+1))=2^n*2^(n*t.length):=by rw[Lk,Cu,Mx]
   rw[f];generalize (2:Int)^(n*t.length)=P at a |-
   generalize (2:Int)^n=Bv at e0 |-
   have:r*(Bv*P)+(W+P*d)=(r*Bv+d)*P+W:=by
    rw[Sw,O9,J5 P d,I5 W,<-S6]
   rw[this,<-e0,Sw,Ayh];have q1:b*Q*P=b*(P*Q):=by rw[O9,J5 Q P]
   rw[q1,A2x,a,A2x]
noncomputable def Eo (t:TM)(b:SM):List MV->SM
 |[]=>fun V Z=>some (.next,V,Z)
 |d::r=>fun V Z=>(t V Z d).bind fun y=>(b y.1 y.2).bind fun z=>match z.1 with
   | .next=>Eo t b r z.2.1 z.2.2
   | .cont=>Eo t b r z.2.1 z.2.2
   | .brk=>some (.next,z.2.1,z.2.2)
   | .ret v=>some (.ret v,z.2.1,z.2.2)
theorem Aby (t:TM)(b:SM)(d:MV)(r:List MV)(V:Sl)(Z:Mu):Eo t b (d::r) V Z=(t V Z d).bind fun y=>(b y.1 y.2).bind fun z=>match z.1 with
   | .next=>Eo t b r z.2.1 z.2.2
   | .cont=>Eo t b r z.2.1 z.2.2
   | .brk=>some (.next,z.2.1,z.2.2)
   | .ret v=>some (.ret v,z.2.1,z.2.2):=rfl
theorem Amx (t:TM)(b:SM)(V:Sl)(Z:Mu):Eo t b [] V Z=some (.next,V,Z):=rfl
theorem Ab8 {t:TM}{b:SM}{d:MV}{r:List MV}{V V' a:Sl}{Z Z' Z'':Mu}(h:t V Z d=some (V',Z'))(h':b V' Z'=some (.next,a,Z'')):Eo t b (d::r) V Z=Eo t b r a Z'':=by
 show(t V Z d).bind _=_;rw[h];show(b V' Z').bind _=_;rw[h'];rfl
theorem Avl {nx:Nx}{t:TM}{b:SM}{l:List MV}:∀{i:Nat},(∀j Z,nx (i+j) Z=some (l[j]?))->W3 nx t b (l.length+1) i=Eo t b l:=by
 induction l with
 |nil=>exact fun{i} h=>funext fun V=>funext fun Z=>by show(nx i Z).bind _=_;rw[show nx i Z=_ from h 0 Z];rfl
 |cons a l J=>
  intro i h;funext V Z;have e:W3 nx t b (l.length+1+1) i V Z=(nx i Z).bind fun r=>match r with
   |none=>some (.next,V,Z)
   |some d=>(t V Z d).bind fun y=>(b y.1 y.2).bind fun z=>match z.1 with
    | .next=>W3 nx t b (l.length+1) (i+1) z.2.1 z.2.2
    | .cont=>W3 nx t b (l.length+1) (i+1) z.2.1 z.2.2
    | .brk=>some (.next,z.2.1,z.2.2)
    | .ret v=>some (.ret v,z.2.1,z.2.2):=rfl
  rw[J fun j Z=>(Dg i 1 j▸h (j+1) Z:_)] at e;exact e.trans (by rw[show nx i Z=_ from h 0 Z];rfl)
theorem R7 {nx:Nx}{t:TM}{b:SM}{items:List MV}(h:∀j Z,nx j Z=some (items[j]?))(k i:Nat)(V:Sl)(Z:Mu)(hk:items.length-i=k)(_:i<=items.length):W3 nx t b (k+1) i V Z=Eo t b (items.drop i) V Z:=by
 rw[<-hk,<-D0,Avl fun j Z=>(h (i+j) Z).trans (congrArg some Zv.symm)]
theorem Akr (l:List PV)(j:Nat)(Z:Mu):Akq l j Z=some ((l.reverse.map MV.p)[j]?):=by
 unfold Akq
 congr 1
 rw[B0];by_cases h:j<l.length
 ·rw[if_pos h,List.getElem?_reverse h]
 ·rw[if_neg h,Io (by simpa using h)];rfl
theorem Vx {d:MV}{l:List MV}{Z:Mu}(h:Kp Z d=some l)(j:Nat):Akf d j Z=some (l[j]?):=by
 unfold Akf;rw[h];rfl
theorem U8 (a:Int)(n j:Nat)(Z:Mu):Nf a n j Z=some (((Gb n).map fun i=>MV.p (.int (a+(i:Nat))))[j]?):=by
 unfold Nf
 congr 1
 rw[B0];by_cases h:j<n
 ·rw[if_pos h,Ayl h];rfl
 ·rw[if_neg h,Io (by simpa using h)];rfl
noncomputable def Ahe:SM:=(B5 (Cp (Cm (fcF (Fq 3 11 Pg)) (Ak (bE Fg (bE (i2 Anu) (vE 4) (vE 2)) (vE 6)) (Ak (vE 1) (Ak (vE 2) Bk)))) (T3 2 (Gi (Bc 7) (Gi (Bc 4) Rl)))) (B5 (H5 (Gq "list" (vE 5) (Ak (vE 7) Bk) Ix)) E5))
theorem Ahb (a b n:Int)(Z:Mu)(Y:b≠0)(e:b.natAbs<big)(h:(Bu a:Int)-n<=4000):
  Fq 3 11 Pg [.p (.int a),.p (.int b),.p (.int n)] Z=some (.tuple [.int (a.fdiv b),.int (a.fmod b)],Z):=by
 refine(No (V':=L1 11 [.p (.int a),.p (.int b),.p (.int n)]) (r:=.p (.tuple [.int (a.fdiv b),.int (a.fmod b)])) (Z':=Z) ?_ rfl rfl).trans (congrArg (fun z=>some (_,z)) Eg);unfold Pg;exact Fd (iT (decide ((Bu a:Int)-n<=4000)) rfl (decide_eq_true h) (Fd (Kw (Ju (Bz rfl (Bz rfl rfl)) (if_pos ⟨Y,e⟩)))))
theorem Ag7 {x:Int}{m:Nat}(I:0<=x)(h:x<2^m):Bu x<=m:=by
 obtain⟨k,rfl⟩:=Ek I;unfold Bu;split
 ·exact Cb _
 ·rename_i W;exact(Agd (show k≠0 from fun q=>W (by rw[q];rfl))).mpr (E3.mp (by rw[Aig];exact h))
theorem Aes {i:Nat}{l:List PV}{x:PV}{Z:Mu}(h:Z[i]?=some (some (.lst l)))(N:l.length<=16777216):Ix [.mu i,.p x] Z=some (.p .none,Z.set i (some (.lst (l++[x])))):=by
 show(Lq Z i).bind _=_;rw[K4 h];exact if_pos N
theorem Ao6 {r d b:Int}{n:Nat}(U:0<=r)(O:r<b)(g:b<2^n)(w:0<=d)(c:d<2^n):0<=r*2^n+d/\r*2^n+d<2^(n+n):=by
 have I:(0:Int)<2^n:=Jy (by decide);refine⟨K6 (Xu U (Co I)) w,D9 (Ay2 c _) ?_⟩;rw[Mx];have m:(r+1)*2^n<=2^n*2^n:=Jk (Fh O (Co g)) (Co I);rwa[Sw,Fs] at m
noncomputable def A5s (a b:Int)(n:Nat)(dg:Option MV)(i:Nat)(r:Int)(x y:Option MV):Sl:=[some (.p (.int a)),some (.p (.int b)),some (.p (.int n)),dg,some (.p (.int r)),some (.mu i),x,y,none]
theorem A0t {a b:Int}{n:Nat}{dg:Option MV}{i:Nat}(Y:0<b)(e:b.natAbs<big)(g:b<2^n)(K:n<=900){d r:Int}{x7:Option MV}{q:List Int}{Z:Mu}(U:0<=r)(O:r<b)(hd:0<=d/\d<2^n)(N:q.length<=1000)(z:Z[i]?=some (some (.lst (q.map PV.int)))):
  Ahe (A5s a b n dg i r (some (.p (.int d))) x7) Z=some (.next,A5s a b n dg i ((r*2^n+d)%b) (some (.p (.int d))) (some (.p (.int ((r*2^n+d)/b)))),Z.set i (some (.lst ((q++[(r*2^n+d)/b]).map PV.int)))):=by
 have h:(Bu (r*2^n+d):Int)-n<=4000:=Int.sub_right_le_of_le_add (show _<=((4000+n:Nat):Int) from D7.mpr (Ab (Ag7 (Ao6 U O g hd.1 hd.2).1 (Ao6 U O g hd.1 hd.2).2) (Bp (Ab K (by decide)) n)));have f:=Ahb (r*2^n+d) b n Z (F9 Y) e h;rw[E9 _ (Co Y),K7 _ (Co Y)] at f;rw[F5];unfold Ahe A5s;exact sN (Fu (Ae7 (Bz (Du (Tr rfl rfl (Anv (Ah (Aue U (Co O)) e) (Ab K (by decide)))) rfl rfl) (Bz rfl (Bz rfl rfl))) f) rfl)
  (sN (R4 (Qi rfl (by show(match Z[i]? with|some (some (.lst _))=>_|_=>_)=_;rw[z];rfl) (Bz rfl rfl) (Aes z (by rw[Bn];exact Ab N (by decide))))) rfl)
theorem A0s (a b:Int)(n:Nat)(dg:Option MV)(i:Nat)(Y:0<b)(e:b.natAbs<big)(g:b<2^n)(K:n<=900):∀(t:List Int) (r:Int) (c x7:Option MV) (q:List Int) (Z:Mu),0<=r->r<b->(∀d∈t,0<=d/\d<2^n)->q.length+t.length<=1000->
  Z[i]?=some (some (.lst (q.map PV.int)))->∃y m,Eo (Bc 6) Ahe (t.map fun d=>MV.p (.int d)) [some (.p (.int a)),some (.p (.int b)),some (.p (.int n)),dg,some (.p (.int r)),some (.mu i),c,x7,none] Z=
   some (.next,[some (.p (.int a)),some (.p (.int b)),some (.p (.int n)),dg,some (.p (.int (S1 b n t r).2)),some (.mu i),y,m,none],Z.set i (some (.lst ((q++(S1 b n t r).1).map PV.int)))):=by
 intro t;induction t with
 |nil=>exact fun r c x7 q Z U O hd N z=>exi2 c x7 (by rw[show S1 b n [] r=([],r) from rfl,Ct,Aky z];rfl)
 |cons d t J=>
  intro r c x7 q Z U O hd N z;obtain⟨y,m,J⟩:=J ((r*2^n+d)%b) (some (.p (.int d))) (some (.p (.int ((r*2^n+d)/b)))) (q++[(r*2^n+d)/b]) (Z.set i (some (.lst ((q++[(r*2^n+d)/b]).map PV.int)))) (Me _ (F9 Y)) (Mn _ Y) (fun x R=>hd x (.tail _ R))
   (by rw[As,Dj,Cu _ t.length];exact N) (Fe (Aq.mp z).1)
  rw[List.set_set,Az] at J;exact exi2 y m ((Ab8 rfl (A0t (a:=a) (dg:=dg) (x7:=x7) Y e g K U O (hd d (.head _)) (Ab (Bl _ _) N) z)).trans J)
section
noncomputable def S0 (a b:Int):Bool:=decide (0<b)&&W5 a (Bu b)
noncomputable def dpF:FM:=fun xs Z=>(Amz xs).bind fun r=>if S0 r.1 r.2=true then some (.tuple [.int (r.1/r.2),.int (r.1%r.2)],Z) else none
theorem A1w {b:Int}{n:Nat}(I:0<=b)(h:b<2^n)(K:n<=900):b.natAbs<big:=by
 obtain⟨k,rfl⟩:=Ek I;rw[show(2:Int)^n=((2^n:Nat):Int) from(Aig 2 n).symm] at h;exact Ay (E3.mp h) (Er (by decide) (Ab K (by decide)))
theorem Avd {a b q r:Int}(Y:0<b)(h:a=q*b+r)(U:0<=r)(O:r<b):a/b=q/\a%b=r:=by
 rw[h];exact⟨by rw[I5,Int.add_mul_ediv_right _ _ (F9 Y),Asr U O,Asu],by rw[I5,Int.add_mul_emod_self_right,Adf U O]⟩
theorem Au4 {n:Nat}{l:List Int}(U:1<=n)(O:n*l.length<=900)(C:∀d∈l,0<=d/\d<2^n):Ao3 n l=true:=by
 unfold Ao3;rw[A0,A0];exact⟨⟨decide_eq_true (D7.mpr U),decide_eq_true O⟩,Bd.mpr fun d hd=>decide_eq_true (C d hd)⟩
theorem A0m {dg:MV}{n:Nat}{l:List Int}{Z:Mu}(h:E0 Z dg=some (l.map PV.int))(U:1<=n)(O:n*l.length<=900)(C:∀d∈l,0<=d/\d<2^n):A0l [dg,.p (.int n)] Z=some (.int (L7 n l),Z):=
 Is (x:=A0n dg n Z) (f:=fun v=>(PV.int v,Z)) (Gh h (Gh (Uf l) (if_pos (Au4 U O C))))
theorem Sf {Z:Mu}{l:List PV}:(Z++[some (MO.lst l)])[Z.length]?=some (some (.lst l)):=Gl
theorem Ah8 {Z:Mu}{l j:List PV}:(Z++[some (MO.lst l)]).set Z.length (some (.lst j))=Z++[some (.lst j)]:=by
 rw[G7 _ _ (At _),As1];rfl
theorem A7c {Z:Mu}{i:Nat}{l:List PV}(h:Z[i]?=some (some (.lst l)))(N:l.length<=16777216):Acu [.mu i] Z=some (.p .none,Z.set i (some (.lst l.reverse))):=by
 show(Lq Z i).bind _=_;rw[K4 h];exact if_pos N
theorem An6 {Z:Mu}{i:Nat}{l:List PV}(h:Z[i]?=some (some (.lst l))):Y6 "list" Z (.mu i)=true:=by
 show(match Z[i]? with|some (some (.lst _))=>_|_=>_)=_;rw[h];rfl
theorem A0r (a b:Int)(Z:Mu)(h:S0 a b=true):Fq 2 9 Qt [.p (.int a),.p (.int b)] Z=some (.tuple [.int (a/b),.int (a%b)],Z):=by
 have Y:0<b:=by unfold S0 at h;rw[A0] at h;exact of_decide_eq_true h.1
 have w:W5 a (Bu b)=true:=by unfold S0 at h;rw[A0] at h;exact h.2
 have g:=Apv b (Co Y);refine Aa fun X=>?_;obtain⟨o,n,f,B,s,v,c⟩:=Am0 w;refine X ?_;replace f:Bu b=n:=Ie.mp f;clear h;rw[f] at g w;have O:=Ae3 o B;have H:A55 [.p (.int a),.p (.int n)] Z=some (.list ((Hk n (J4 a n) a).map PV.int),Z):=if_pos w;generalize J4 a n=K at H v c O;have p:∀d∈(Hk n K a).reverse,0<=d/\d<2^n:=fun d hd=>Abq n K a d (Tc.mp hd);have u:(Hk n K a).reverse.length=K:=by rw[H3,Ke]
 refine exe2 (A0s a b n (some (.p (.list ((Hk n K a).map PV.int)))) Z.length Y (A1w (Co Y) g s) g s (Hk n K a).reverse 0 none none [] (Z++[some (.lst [])]) (Agb _) Y p (by rw[u,qj,Cg];exact Ab c (by decide)) Sf) fun y m e=>?_;have L:=Afk b n Y (Hk n K a).reverse 0 (Agb _) Y p;have G:(S1 b n (Hk n K a).reverse 0).1.length=K:=by rw[Tv,u]
 rw[Atm,Ajp n K a o O,Int.zero_mul,Asu] at L;rw[qm] at e;generalize S1 b n (Hk n K a).reverse 0=z at e L G;rw[(Avd Y ((J5 ..).symm▸L.2.2) L.1.1 L.1.2).1,(Avd Y ((J5 ..).symm▸L.2.2) L.1.1 L.1.2).2];rw[Ah8] at e;have i:R8 (Np (Ak (vE 3) Bk) A7b) (Bc 6) Ahe [some (.p (.int a)),some (.p (.int b)),some (.p (.int n)),some (.p (.list ((Hk n K a).map PV.int))),some (.p (.int 0)),some (.mu Z.length),none,none,none] (Z++[some (.lst [])])=
   some (.next,[some (.p (.int a)),some (.p (.int b)),some (.p (.int n)),some (.p (.list ((Hk n K a).map PV.int))),some (.p (.int z.2)),some (.mu Z.length),y,m,none],Z++[some (.lst (z.1.map PV.int))]):=by
  have R:((Hk n K a).map PV.int).reverse.map MV.p=(Hk n K a).reverse.map fun d=>MV.p (.int d):=by
   rw[<-A4l,F6];rfl
  have hk:(((Hk n K a).map PV.int).reverse.map MV.p).length-0=((Hk n K a).map PV.int).length:=by rw[Ob,Bn,H3]
  exact Avm (nx:=Akq ((Hk n K a).map PV.int)) (n:=((Hk n K a).map PV.int).length) rfl ((R7 (fun j Z=>Akr _ j Z) _ 0 _ _ hk (Cb _)).trans (by rw[Gy,R];exact e))
 have hq:(z.1.map PV.int).length<=16777216:=by rw[Bn,G];exact Ab c (by decide)
 have hd2:A0l [.mu Z.length,.p (.int n)] (Z++[some (.lst (z.1.map PV.int).reverse)])=some (.int (L7 n z.1.reverse),Z++[some (.lst (z.1.map PV.int).reverse)]):=by
  refine A0m ?_ B (by rw[H3,G];exact v) fun d hd=>L.2.1 d (Tc.mp hd);show(match(Z++[some (MO.lst (z.1.map PV.int).reverse)])[Z.length]? with|some (some (.lst l))=>_|some (some (.wl l _))=>_|_=>_)=_;rw[Sf,A4l]
 refine(No (V':=[some (.p (.int a)),some (.p (.int b)),some (.p (.int n)),some (.p (.list ((Hk n K a).map PV.int))),some (.p (.int z.2)),some (.mu Z.length),y,m,some (.p (.int (L7 n z.1.reverse)))]) (Z':=Z++[some (.lst (z.1.map PV.int).reverse)]) (r:=.p (.tuple [.int (L7 n z.1.reverse),.int z.2])) ?_ rfl rfl).trans (congrArg (fun z=>some (_,z)) K1);unfold Qt;exact sN (Fu (x:=.p (.int n)) (Qi rfl rfl rfl (congrArg (fun k:Nat=>some (MV.p (.int k),Z)) f)) rfl) (sN (Fu (Ae7 (Bz rfl (Bz rfl rfl)) H) rfl) (sN (Fu rfl rfl) (sN (Fu rfl rfl) (sN i
  (sN (R4 (Qi rfl (An6 Sf) rfl ((A7c Sf hq).trans (congrArg (fun z=>some (MV.p .none,z)) Ah8)))) (sN (Fu (Ae7 (Bz rfl (Bz rfl rfl)) hd2) rfl) (Fd (Kw rfl))))))))
section
variable {w:F7}{mean:Hs->Option Ac}{v0:Option Ac}{tabs:List Dx}
theorem Ady (u:Ut∈tabs)(B:Uu∈tabs):FC (cx w mean v0 tabs) 25 66 dpF:=(Aa4 u B).of fun C Z x e=>Aw e fun r W e=>by
 rw[Afd (a:=r.1) (b:=r.2) W,<-(Am e).2];exact A0r _ _ Z (Am e).1
end
end
section
seal SE SL SB SXT STg STs SI ON O1 O2 SP SA SBs SC OI FC
section
variable {w:F7}{mean:Hs->Option Ac}{v0:Option Ac}{tabs:List Dx}
noncomputable def Ahn:Sg:={names:=[("a",.local),("b",.local),("q",.local),("r",.local),("ZeroDivisionError",.globalImplicit),("int_divmod",.globalImplicit),("_divmod_pos",.globalImplicit)],vars:=[("a",.loc),("b",.loc),("q",.loc),("r",.loc)]}
noncomputable def Nw (F:FM):SM:=
 (B5 (ifX (tB (bE eqF (vE 1) (kE (.int 0)))) An1 (B5 (ifX (tB (bE (ci fun a b=>decide (a<b)) (vE 1) (kE (.int 0)))) (B5 (Cp (Cm (fcF F) (Ak (uE Ku (vE 0)) (Ak (uE Ku (vE 1)) Bk))) (T3 2 (Gi (Bc 2) (Gi (Bc 3) Rl)))) (B5 (O6 (It (Ak (vE 2) (Ak (uE Ku (vE 3)) Bk)))) E5)) (B5 (ifX (tB (bE (ci fun a b=>decide (a<b)) (vE 0) (kE (.int 0)))) (B5 (Cp (Cm (fcF F) (Ak (uE A07 (vE 0)) (Ak (vE 1) Bk))) (T3 2 (Gi (Bc 2) (Gi (Bc 3) Rl)))) (B5 (O6 (It (Ak (uE A07 (vE 2)) (Ak (bE Fg (vE 1) (uE A07 (vE 3))) Bk)))) E5)) (B5 (O6 (Cm (fcF dpF) (Ak (vE 0) (Ak (vE 1) Bk)))) E5)) E5)) E5)) E5)
theorem Qx (u:Ut∈tabs)(B:Uu∈tabs){k:Nat}{F:FM}(hk:25<=k)(hF:FC (cx w mean v0 tabs) k 73 F):FC (cx w mean v0 tabs) (k+2) 73 (Fq 2 4 (Nw F)):=
 X9 (S:=Ahn) (ps:=[(oS "a"),(oS "b")]) ⟨rfl,rfl,rfl,rfl,rfl,rfl,rfl,rfl,rfl,rfl,rfl,by decide+kernel,Afm (fun _ _=>rfl),H6 (by decide+kernel)⟩
 (Bf (So (Gt (vn 1 "b" rfl) A7 (Lm (Br _ _)) rfl) Aen (Bf (So (Gt (vn 1 "b" rfl) A7 A3k rfl) (Bf (Bq (Hg (Ae (Kc (vn 0 "a" rfl) I2) (Ae (Kc (vn 1 "b" rfl) I2) A5 rfl) rfl) (Kt (FC.mono hF (J1 _))) rfl rfl rfl rfl (Bg rfl)) (Ko (Ex (tn 2 .loc rfl) (Ex (tn 3 .loc rfl) Na)) (fun _=>rfl)) rfl rfl (fun _=>rfl)) (Bf (Jo (En (Ae (vn 2 "q" rfl) (Ae (Kc (vn 3 "r" rfl) I2) A5 rfl) rfl))) Ce)) (Bf (So (Gt (vn 0 "a" rfl) A7 A3k rfl) (Bf (Bq (Hg (Ae (Kc (vn 0 "a" rfl) Al3) (Ae (vn 1 "b" rfl) A5 rfl) rfl) (Kt (FC.mono hF (J1 _))) rfl rfl rfl rfl (Bg rfl)) (Ko (Ex (tn 2 .loc rfl) (Ex (tn 3 .loc rfl) Na)) (fun _=>rfl)) rfl rfl (fun _=>rfl)) (Bf (Jo (En (Ae (Kc (vn 2 "q" rfl) Al3) (Ae (Bh (vn 1 "b" rfl) (Kc (vn 3 "r" rfl) Al3) D2) A5 rfl) rfl))) Ce)) (Bf (Jo (Hg (Ae (vn 0 "a" rfl) (Ae (vn 1 "b" rfl) A5 rfl) rfl) (Kt (FC.mono (Ady u B) (El hk))) rfl rfl rfl rfl (Bg rfl))) Ce)) Ce)) Ce)) Ce)
noncomputable def A57:FM:=fun xs Z=>(Amz xs).bind fun r=>if S0 r.1 r.2=true then some (.tuple [.int (r.1/r.2),.int (r.1%r.2)],Z) else none
theorem Tn {a b:Int}(h:S0 a b=true):0<b/\0<=a:=by
 unfold S0 at h;rw[A0] at h;have O:=h.2;unfold W5 at O;exact⟨of_decide_eq_true h.1,(of_decide_eq_true O).1⟩
theorem Auu {a:Int}(h:0<a):(a==0)=false:=beq_false_of_ne (F9 h)
theorem nlt {a b:Int}(h:b<=a):decide (a<b)=false:=decide_eq_false (K8.mpr h)
theorem Ajy {F:FM}{a b:Int}{Z:Mu}(h:S0 a b=true):Fq 2 4 (Nw F) [.p (.int a),.p (.int b)] Z=some (.tuple [.int (a/b),.int (a%b)],Z):=by
 refine(No (V':=_) (Z':=Z) (r:=.p (.tuple [.int (a/b),.int (a%b)])) (Fd (iF (b==0) rfl (Auu (Tn h).1) (Fd (iF (decide (b<0)) rfl (nlt (Co (Tn h).1)) (Fd (iF (decide (a<0)) rfl (nlt (Tn h).2)
  (Fd (Kw (Ae7 (xs:=[.p (.int a),.p (.int b)]) rfl (if_pos h)))))))))) rfl rfl).trans ?_
 rw[Eg]
theorem Avt (u:Ut∈tabs)(B:Uu∈tabs):FC (cx w mean v0 tabs) 27 73 A57:=(Qx (k:=25) (F:=fun _ _=>none) u B (At _) FC.none).of fun C Z x e=>Aw e fun r W D=>by
 rw[Afd (a:=r.1) (b:=r.2) W,<-Af (Am D).2];exact Ajy (Am D).1
end
end
section
seal SE SL SB SXT STg STs SI ON O1 O2 SP SA SBs SC OI FC
section
variable {w:F7}{mean:Hs->Option Ac}{v0:Option Ac}{tabs:List Dx}
noncomputable def U7 (a:Int):Int:=if a<0 then -a-1 else a
noncomputable def Am1:FM:=fun xs Z=>(Amz xs).bind fun r=>if S0 (U7 r.1) r.2=true then some (.tuple [.int (r.1/r.2),.int (r.1%r.2)],Z) else none
theorem Ajv (a b:Int)(Y:0<b): -((-a-1)/b)-1=a/b/\b+(-((-a-1)%b)-1)=a%b:=by
 have U:=V6 (-a-1) b;have O:=Me (-a-1) (show b≠0 from(F9 Y));have C:=Mn (-a-1) Y;generalize (-a-1)%b=x at *;generalize (-a-1)/b=y at *;have e:a=(b+(-x-1))+b*(-y-1):=by
  rw[Int.mul_sub,Int.mul_neg,Int.mul_one];lia
 have D:0<=b+(-x-1):=by lia
 have z:b+(-x-1)<b:=by lia
 generalize -y-1=q at e |-
 generalize b+(-x-1)=r at e D z |-
 subst e;constructor
 ·rw[Ate _ _ (F9 Y),Asr D z,Asu]
 ·rw[Int.add_mul_emod_self_left,Adf D z]
theorem Avw {F:FM}{a b:Int}{Z:Mu}(Y:0<b)(M:a<0)(hF:F [.p (.int (-a-1)),.p (.int b)] Z=some (.tuple [.int ((-a-1)/b),.int ((-a-1)%b)],Z)):
  Fq 2 4 (Nw F) [.p (.int a),.p (.int b)] Z=some (.tuple [.int (a/b),.int (a%b)],Z):=by
 refine(No (V':=_) (Z':=Z) (r:=.p (.tuple [.int (-((-a-1)/b)-1),.int (b+(-((-a-1)%b)-1))])) (Fd (iF (b==0) rfl (Auu Y) (Fd (iF (decide (b<0)) rfl (nlt (Co Y)) (Fd (iT (decide (a<0)) rfl (decide_eq_true M)
  (sN (Fu (Ae7 (xs:=[.p (.int (-a-1)),.p (.int b)]) rfl hF) rfl) (Fd (Kw rfl))))))))) rfl rfl).trans ?_
 rw[Eg,(Ajv a b Y).1,(Ajv a b Y).2]
theorem Avs {F:FM}{a b:Int}{Z:Mu}(h:S0 (U7 a) b=true)(hF:∀c,S0 c b=true->F [.p (.int c),.p (.int b)] Z=some (.tuple [.int (c/b),.int (c%b)],Z)):
  Fq 2 4 (Nw F) [.p (.int a),.p (.int b)] Z=some (.tuple [.int (a/b),.int (a%b)],Z):=by
 unfold U7 at h;by_cases M:a<0
 ·rw[if_pos M] at h;exact Avw (Tn h).1 M (hF _ h)
 ·rw[if_neg M] at h;exact Ajy h
theorem Avu (u:Ut∈tabs)(B:Uu∈tabs):FC (cx w mean v0 tabs) 29 73 Am1:=(Qx u B (by decide) (Avt u B)).of fun C Z x e=>Aw e fun r W D=>by
 rw[Afd (a:=r.1) (b:=r.2) W,<-Af (Am D).2];exact Avs (Am D).1 fun c h=>if_pos h
end
end
section
seal SE SL SB SXT STg STs SI ON O1 O2 SP SA SBs SC OI FC
section
variable {w:F7}{mean:Hs->Option Ac}{v0:Option Ac}{tabs:List Dx}
noncomputable def Apn (a b:Int):Option (Int×Int):=if 0<b then(if S0 (U7 a) b=true then some (a/b,a%b) else none) else if b<0 then(if S0 (U7 (-a)) (-b)=true then some ((-a)/(-b), -((-a)%(-b))) else none) else none
noncomputable def Pn:FM:=fun xs Z=>(Amz xs).bind fun r=>(Apn r.1 r.2).map fun r=>(.tuple [.int r.1,.int r.2],Z)
theorem A67 {c:Int}(h:0<=c):U7 c=c:=if_neg (K8.mpr h)
theorem Avv {c b:Int}{Z:Mu}(h:S0 c b=true):Am1 [.p (.int c),.p (.int b)] Z=some (.tuple [.int (c/b),.int (c%b)],Z):=if_pos ((congrArg (fun z=>S0 z b) (A67 (Tn h).2)).trans h)
theorem A04 {a b:Int}{Z:Mu}(Y:b<0)(h:S0 (U7 (-a)) (-b)=true):
  Fq 2 4 (Nw Am1) [.p (.int a),.p (.int b)] Z=some (.tuple [.int ((-a)/(-b)),.int (-((-a)%(-b)))],Z):=by
 refine(No (V':=_) (Z':=Z) (r:=.p (.tuple [.int ((-a)/(-b)),.int (-((-a)%(-b)))])) (Fd (iF (b==0) rfl (beq_false_of_ne (Ast Y)) (Fd (iT (decide (b<0)) rfl (decide_eq_true Y)
  (sN (Fu (Ae7 (xs:=[.p (.int (-a)),.p (.int (-b))]) rfl (if_pos h)) rfl) (Fd (Kw rfl))))))) rfl rfl).trans ?_
 rw[Eg]
theorem A03 (u:Ut∈tabs)(B:Uu∈tabs):FC (cx w mean v0 tabs) 31 73 Pn:=(Qx u B (by decide) (Avu u B)).of fun C Z x e=>Aw e fun r W D=>Ur D fun q N O=>by
 rw[Afd (a:=r.1) (b:=r.2) W,<-Af O];unfold Apn at N;by_cases Y:0<r.2
 ·rw[if_pos Y] at N;rw[<-Af (Am N).2];exact Avs (Am N).1 fun c h=>Avv h
 ·rw[if_neg Y] at N;rw[<-Af (Am (Am N).2).2];exact A04 (Am N).1 (Am (Am N).2).1
end
end
noncomputable def apL:Nat->Nat->List UInt8
 |0,_=>[]
 |f+1,n=>if n=0 then[] else apL f (n/16)++[Db (65+n%16)]
theorem Auk (f n:Nat):apL (f+1) n=if n=0 then[] else apL f (n/16)++[Db (65+n%16)]:=rfl
noncomputable def Zh:List UInt8:=[65,66,67,68,69,70,71,72,73,74,75,76,77,78,79,80]
theorem A5c (m:Nat)(h:m<16):cut (some (m:Int)) (some ((m:Int)+1)) Zh=[Db (65+m)]:=by
 have:∀m:Fin 16,cut (some (m.val:Int)) (some ((m.val:Int)+1)) Zh=[Db (65+m.val)]:=by decide+kernel
 exact this ⟨m,h⟩
noncomputable def A0b:BM:=tB (vE 0)
noncomputable def Ag0:SM:=(B5 (Cp (Cm Uc (Ak (vE 0) (Ak (kE (.int 16)) Bk))) (T3 2 (Gi (Bc 0) (Gi (Bc 3) Rl)))) (B5 (Cp (bE Fg (slE false (vE 2) (atP (vE 3)) (atP (bE Fg (vE 3) (kE (.int 1))))) (vE 1)) (Bc 1)) E5))
theorem A0d {n:Nat}{g:List UInt8}{x:Option MV}{Z:Mu}(N:1+g.length<=16777216):Ag0 [some (.p (.int n)),some (.p (.bytes g.toArray)),some (.p (.bytes Zh.toArray)),x] Z=
  some (.next,[some (.p (.int ((n/16:Nat):Int))),some (.p (.bytes ([Db (65+n%16)]++g).toArray)),some (.p (.bytes Zh.toArray)),some (.p (.int ((n%16:Nat):Int)))],Z):=by
 have h:Uc [.p (.int n),.p (.int 16)] Z=some (.p (.tuple [.int ((n/16:Nat):Int),.int ((n%16:Nat):Int)]),Z):=
  (Are ⟨by decide,Uk (by decide)⟩).trans (by rw[E9 _ (by decide),K7 _ (by decide)];rfl)
 have L:Au5 false (.p (.bytes Zh.toArray)) (some ((n%16:Nat):Int)) (some (((n%16:Nat):Int)+1)) Z=some (.p (.bytes [Db (65+n%16)].toArray),Z):=by
  rw[<-A5c (n%16) (Cr _ (by decide))];rfl
 have hz:Fg (.p (.bytes [Db (65+n%16)].toArray)) (.p (.bytes g.toArray)) Z=some (.p (.bytes ([Db (65+n%16)]++g).toArray),Z):=by
  rw[<-Ayk];exact if_pos N
 unfold Ag0;exact sN (Fu (Ju (Bz rfl (Bz rfl rfl)) h) rfl) (sN (Fu (Du (Axj rfl rfl rfl L) rfl hz) rfl) rfl)
theorem A0c (f:Nat):∀(n:Nat) (g:List UInt8) (x:Option MV) (Z:Mu),n<16^f->g.length+f<=1000->
  ∃j,F8 A0b Ag0 (f+1) [some (.p (.int n)),some (.p (.bytes g.toArray)),some (.p (.bytes Zh.toArray)),x] Z=some (.next,[some (.p (.int 0)),some (.p (.bytes (apL f n++g).toArray)),some (.p (.bytes Zh.toArray)),j],Z):=by
 induction f with
 |zero=>exact fun n g x Z h N=>⟨x,by rw[Rx.mp h];exact Aqm false rfl rfl⟩
 |succ f J=>
  intro n g x Z h N;by_cases K:n=0
  ·subst K;exact⟨x,Aqm false rfl rfl⟩
  ·have M:n/16<16^f:=Fa (by rw[Uw,Ib] at h;exact h);obtain⟨j,J⟩:=J (n/16) ([Db (65+n%16)]++g) (some (.p (.int ((n%16:Nat):Int)))) Z M (by rw[As];exact Ab (Aj (by show 1+g.length+f=g.length+(f+1);rw[Cu 1,Dj,Cu 1])) N);refine⟨j,(Bbd ((n:Int) != 0) rfl (bne_iff_ne.mpr (A4h.mpr K)) (A0d (Ab (Ar (Ab (Bl _ _) N) 1) (by decide)))).trans (J.trans ?_)⟩;rw[show apL (f+1) n=apL f (n/16)++[Db (65+n%16)] from if_neg K,Az]
section
noncomputable def O5:FM:=fun xs Z=>((Ahu xs).bind MV.i?).bind fun n=>if n.natAbs<16^90 then some (.bytes (apL 99 n.natAbs).toArray,Z) else none
theorem A47 (n:Int):(if n<0 then -n else n)=(n.natAbs:Int):=by
 split
 ·rw[Int.ofNat_natAbs_of_nonpos (Co (by assumption))]
 ·rw[P1 (K8.mp (by assumption))]
theorem Aj2 (n:Int)(Z:Mu)(h:n.natAbs<16^90):Fq 1 4 Aav [.p (.int n)] Z=some (.bytes (apL 99 n.natAbs).toArray,Z):=by
 obtain⟨j,N⟩:=A0c 99 n.natAbs [] none Z (Cv h (La (by decide) (by decide))) (by decide);rw[Ct] at N;have a:A46 [.p (.int n)] Z=some (.p (.int (n.natAbs:Int)),Z):=congrArg (fun z=>some (MV.p (.int z),Z)) (A47 n);refine(No (V':=[some (.p (.int 0)),some (.p (.bytes (apL 99 n.natAbs).toArray)),some (.p (.bytes Zh.toArray)),j]) (Z':=Z) (r:=.p (.bytes (apL 99 n.natAbs).toArray)) ?_ rfl rfl).trans (congrArg (fun z=>some (_,z)) Eg);unfold Aav;exact sN (Fu rfl rfl) (sN (Fu rfl rfl) (sN (Fu (Ju (Bz (Ju (Bz rfl rfl) a) rfl) rfl) rfl) (sN N (Fd (Kw rfl)))))
section
variable {w:F7}{mean:Hs->Option Ac}{v0:Option Ac}{tabs:List Dx}
theorem Yr:FC (cx w mean v0 tabs) 3 80 O5:=Aq4.of fun C Z x e=>Aw e fun n W e=>Aw W fun x D N=>by
 rw[Zo D,MV.i_i N,<-(Am e).2];exact Aj2 _ Z (Am e).1
end
end
section
section
variable {w:F7}{mean:Hs->Option Ac}{v0:Option Ac}{tabs:List Dx}
theorem A64:∀g,(cx w mean v0 tabs).K.In g->Pd g 85 C1 1:=fun g h=>
 ⟨_,_,84,_,0,1,0,0,h 85 _ rfl,rfl,rfl,rfl,rfl,rfl,rfl,h 84 _ rfl,rfl,(by simp only[C1,Adn,qk,ql];rfl),rfl,rfl⟩
theorem A1s:∀g,(cx w mean v0 tabs).K.In g->Pd g 105 C2 0:=fun g h=>
 ⟨_,_,104,_,0,0,0,0,h 105 _ rfl,rfl,rfl,rfl,rfl,rfl,rfl,h 104 _ rfl,rfl,(by simp only[C2,Adn,qk,ql];rfl),rfl,rfl⟩
theorem A1t:∀g,(cx w mean v0 tabs).K.In g->Pd g 110 C3 0:=fun g h=>
 ⟨_,_,109,_,0,0,0,0,h 110 _ rfl,rfl,rfl,rfl,rfl,rfl,rfl,h 109 _ rfl,rfl,(by simp only[C3,Adn,qk,ql];rfl),rfl,rfl⟩
noncomputable def Ae4 (l:List Nat):List Nat:=Oh true l
noncomputable def Vw (l:List Nat):List Nat:=G3 l.length l
theorem A40 {k:Nat}:ON (cx w mean v0 tabs) k (fun vs=>call (.builtin "re.Pattern.sub") vs) (Axr 105 (oS "..") Ae4):=
 At5 Bce A1s (fun T a b h=>by obtain⟨_,O,_,rfl⟩:=h;exact⟨(Aj rfl),(Ft O)⟩) (by decide+kernel) (by decide+kernel) fun T out h=>by
  have h':Tg (q2 T) T [46,46] 0 out:=h;have:=Bcl T 0 out h' (Cb _);rw[this];rfl
theorem Azo {k:Nat}:ON (cx w mean v0 tabs) k (fun vs=>call (.builtin "re.Pattern.sub") vs) (Axr 110 (oS "\r\n") Vw):=
 At5 Bcf A1t (fun T a b h=>by rcases h.2 with⟨_,hx,rfl⟩|⟨_,rfl⟩|⟨_,_,rfl⟩<;>have:=h.1<;>first|exact⟨(Ba (Aj rfl)),(Ay hx.1 (Aj rfl))⟩|exact⟨(Aj rfl),(Ft this)⟩) (by decide+kernel) (by decide+kernel) fun T out h=>by
  have h':Tg (q3 T) T [13,10] 0 out:=h;have:=Bcm T 0 out h' (Cb _);rw[this];show G3 (T.size-0) (T.toList.drop 0)=G3 T.toList.length T.toList;simp
seal SE SL SB SXT STg STs SI ON O1 O2 SP SA SBs SC OI FC
noncomputable def Ako:Sg:={names:=[("data",.local),("twin_re_1_smtplib",.globalImplicit),("_twin_re_2",.globalImplicit),("CRLF",.globalImplicit)],vars:=[("data",.loc)]}
noncomputable def Zq:SM:=
 (B5 (O6 (Ace 105 (kE (.fn 105)) (Ak (kE (.str "..")) (Ak (Ace 110 (kE (.fn 110)) (Ak (kE (.str "\r\n")) (Ak (vE 0) Bk)) (Axr 110 (oS "\r\n") Vw)) Bk)) (Axr 105 (oS "..") Ae4))) E5)
theorem Ahw:FC (cx w mean v0 tabs) 3 117 (Fq 1 1 Zq):=
 X9 (S:=Ako) (ps:=[(oS "data")]) ⟨rfl,rfl,rfl,rfl,rfl,rfl,rfl,rfl,rfl,rfl,rfl,by decide+kernel,Afl (fun _=>rfl),H6 (by decide+kernel)⟩
 (Bf (Jo (Aaz (T:="re.Pattern") (id:="re.Pattern.sub") (Ags rfl rfl) (Ae Dk (Ae (Aaz (T:="re.Pattern") (id:="re.Pattern.sub") (Ags rfl rfl) (Ae (Azu rfl rfl) (Ae (vn 0 "data" rfl) A5 rfl) rfl) Azo rfl rfl rfl Pv Sc Xo (fun _=>rfl) (Bg rfl) (by decide) (F3 rfl) rfl) A5 rfl) rfl) A40 rfl rfl rfl Pv Sc Xo (fun _=>rfl) (Bg rfl) (by decide) (F3 rfl) rfl)) Ce)
end
end
section
section
variable {w:F7}{mean:Hs->Option Ac}{v0:Option Ac}{tabs:List Dx}
theorem Yu:∀(n:Nat) (l:List Nat),(G3 n l).length<=2*l.length
 |0,l=>by simp[Ap3]
 |n+1,[]=>by simp[Aam]
 |n+1,c::r=>by
  have h:=Yu n r;simp only[Qj];split
  ·split
   ·rename_i Y;have h':=Yu n Y;simp only[qi];exact Ax (Ax h' (by decide)) (by decide)
   ·simp only[qi] at *;exact Rw h (by decide)
  ·split<;>simp only[qi]<;>first|exact Rw h (by decide)|exact Ax h (by decide)
noncomputable def Vz:FM:=fun xs Z=>((Ahu xs).bind MV.s?).bind fun x=>if x.cps.size<=300000 then some (.str ⟨(Ae4 (Vw x.cps.toList)).toArray⟩,Z) else none
theorem Aw4:FC (cx w mean v0 tabs) 3 117 Vz:=Ahw.of fun C Z r e=>Aw e fun x W e=>Aw W fun z D N=>by
 rw[Zo D,MV.s_i N,<-(Am e).2];have K:(Vw x.cps.toList).length<=1000000:=Ab (Yu x.cps.toList.length x.cps.toList) (Ab (Au 2 (show x.cps.toList.length<=300000 from P4▸((Am e).1))) (by decide));refine(No (V':=[some (.p (.str x))]) (Z':=Z) (r:=.p (.str ⟨(Ae4 (Vw x.cps.toList)).toArray⟩)) ?_ rfl rfl).trans (congrArg (fun z=>some (_,z)) Eg);unfold Zq;exact Fd (Kw (Acf rfl (Bz rfl (Bz (Acf rfl (Bz rfl (Bz rfl rfl)) (if_pos ⟨rfl,rfl,Ab ((Am e).1) (by decide)⟩)) rfl)) (if_pos ⟨rfl,rfl,K⟩)))
end
end
section
section
variable {w:F7}{mean:Hs->Option Ac}{v0:Option Ac}{tabs:List Dx}
noncomputable def Ac9:List (Str×Int):=[(oS "dev",10),(oS "alpha",20),(oS "a",20),(oS "beta",30),(oS "b",30),(oS "c",40),(oS "RC",50),(oS "rc",50),(oS "pl",200),(oS "p",200)]
theorem A19 {prog:Ia}{w:F7}{h:Heap}{d:Addr}{o:Obj}(l:List (Str×Tok×Int×Tok))(k:(d==sysModules)=false)(y:h.get? d=some o)(L:o.ExactDict){es:Array Ay5}{f:Nat}(hd:o.data=.dict es f)
  (a:es.toList=l.map fun p=>{hash:=hashStr w p.1,key:=.str p.1 p.2.1,val:=.int p.2.2.1 p.2.2.2})(A:(l.map (·.1)).Nodup):StrTab prog w h d (kdpD (l.map fun p=>(p.1,p.2.2.1))):=by
 refine TabAt.ofObj (kvs:=l.map fun p=>(p.1,.int p.2.2.1 p.2.2.2)) k y ⟨es,f,L,hd,fun e z=>?_,?_,?_⟩ ?_
 ·have b:e∈es.toList:=by simpa using z
  rw[a] at b;obtain⟨p,I,rfl⟩:=Bj.mp b;exact(⟨p.1,by show X7 p.1 (.str p.1 p.2.1)=true;simp[X7],rfl⟩)
 ·rw[a];clear a A;induction l with
  |nil=>exact .nil
  |cons p l J=>exact .cons (by show X7 p.1 (.str p.1 p.2.1)=true;simp[X7]) rfl J
 ·rw[F6];exact A
 ·unfold kdpD;rw[F6];clear a A;induction l with
  |nil=>exact .nil
  |cons p l J=>exact .cons (.int _ _) J
theorem A2o:∀g,(cx w mean v0 tabs).K.In g->StrTab (cx w mean v0 tabs).prog (cx w mean v0 tabs).w g 86 (kdpD Ac9):=fun g h=>
 A19 [(oS "dev",425,10,426),(oS "alpha",427,20,428),(oS "a",429,20,430),(oS "beta",431,30,432),(oS "b",433,30,434),(oS "c",435,40,436),(oS "RC",437,50,438),(oS "rc",439,50,440),(oS "pl",441,200,442),(oS "p",443,200,444)]
  (by decide) (h 86 _ rfl) ⟨rfl,rfl,rfl⟩ rfl rfl (by decide+kernel)
end
end
section
seal SE SL SB SXT STg STs SI ON O1 O2 SP SA SBs SC OI FC FCC SXC SEC
section
variable {w:F7}{mean:Hs->Option Ac}{v0:Option Ac}{tabs:List Dx}
noncomputable def A0k:Sg:={names:=[("version",.local),("component_re",.local),("result",.local),("v",.local),("t",.local),("twin_re_1_platform",.globalImplicit),("int",.globalImplicit),("ValueError",.globalImplicit),("_ver_stages",.globalImplicit)],vars:=[("version",.loc),("component_re",.loc),("result",.loc),("v",.loc),("t",.loc)]}
noncomputable def Wy:SM:=B5 (ifX (tB (bE niS (vE 3) (kE (.str "._+-")))) (B5 (Um 3 4 Ac9) (B5 (H5 (Gq "list" (vE 2) (Ak (It (Ak (vE 4) (Ak (vE 3) Bk))) Bk) Apc)) E5)) E5) E5
noncomputable def Ag9:SM:=
 (B5 (Cp (kE (.fn 85)) (Bc 1)) (B5 (Cp (K3 Bk) (Bc 2)) (B5 (R8 (Z3 (Ace 85 (vE 1) (Ak (vE 0) Bk) (Ah6 85))) (Bc 3) Wy) (B5 (O6 (vE 2)) E5))))
theorem Au3:FCC (cx w mean v0 tabs) 4 93 (Fq 1 5 Ag9):=
 Wd (S:=A0k) (ps:=[(oS "version")]) ⟨rfl,rfl,rfl,rfl,rfl,rfl,rfl,rfl,rfl,rfl,rfl,by decide+kernel,Afl (fun _=>rfl),H6 (by decide+kernel)⟩
 (B9 (.of (Bq (Ags rfl rfl) (tn 1 .loc rfl) rfl rfl (fun _=>rfl))) (B9 (.of (Bq (Ji A5) (tn 2 .loc rfl) rfl rfl (fun _=>rfl))) (B9 (Agu (Aa0 (Aaz (T:="re.Pattern") (id:="re.Pattern.split") (vn 1 "component_re" rfl) (Ae (vn 0 "version" rfl) A5 rfl) (At4 A64) rfl rfl rfl Pv Tz Ac5 (fun _=>rfl) (Bg rfl) (by decide) (F3 rfl) rfl)) (tn 3 .loc rfl)
  (B9 (At9 (Gt (vn 3 "v" rfl) Dk A4x rfl)
   (B9 (Al9 (vk:=.loc) (vk':=.loc) rfl (by decide) rfl (by decide) rfl rfl A2o rfl rfl (mbD w mean v0 tabs Boot.«int») rfl rfl (mbD w mean v0 tabs Boot.«ValueError») (by decide) (by decide) (by decide) rfl rfl rfl rfl rfl rfl rfl)
    (B9 (.of (Js (G6 (T:="list") (id:="list.extend") (vn 2 "result" rfl) (Ae (En (Ae (vn 4 "t" rfl) (Ae (vn 3 "v" rfl) A5 rfl) rfl)) A5 rfl) Azn Dv PySem.F.slot_list_extend PySem.F.type_list_extend (fun _=>rfl) (Bg rfl) (by decide) (F3 rfl) rfl) rfl)) (.of Ce))) (.of Ce)) (.of Ce)) (fun _ _=>rfl))
 (B9 (.of (Jo (vn 2 "result" rfl))) (.of Ce)))))
end
end
section
noncomputable def Sj (x:Str):List PV:=match PySem.intText? x with
 |some n=>[.int 100,.int n]
 |none=>[.int (Aq3 Ac9 x 0),.str x]
noncomputable def Gw (x:Str):List PV:=if Kb (oS "._+-") x=true then[] else Sj x
noncomputable def Y7 (l:List Str):List PV:=l.flatMap Gw
theorem Ale (x:Str):(Sj x).length=2:=by unfold Sj;split<;>rfl
theorem Alf (x:Str):(Gw x).length<=2:=by unfold Gw;split<;>simp[Ale]
theorem A5y {i:Nat}{l j:List PV}{Z:Mu}(h:Z[i]?=some (some (.lst l)))(N:l.length+j.length<=1000000):Apc [.mu i,.p (.tuple j)] Z=some (.p .none,Z.set i (some (.lst (l++j)))):=by
 show(Lq Z i).bind _=_;rw[K4 h];exact if_pos N
theorem A2j {M q:Nat}{i:List (Str×Int)}{V:Sl}{Z:Mu}{x:Str}{n:Int}(h:V[M]?=some (some (.p (.str x))))(R:okT x=true)(H:PySem.intText? x=some n):
  Um M q i V Z=some (.next,(V.set M (some (.p (.int n)))).set q (some (.p (.int 100))),Z):=by
 unfold Um;rw[Aov h];show(if _ then _ else _)=_;rw[if_pos R,H]
theorem Ax2 {M q:Nat}{i:List (Str×Int)}{V:Sl}{Z:Mu}{x:Str}(h:V[M]?=some (some (.p (.str x))))(R:okT x=true)(H:PySem.intText? x=none):
  Um M q i V Z=some (.next,V.set q (some (.p (.int (Aq3 i x 0)))),Z):=by
 unfold Um;rw[Aov h];show(if _ then _ else _)=_;rw[if_pos R,H]
theorem Aez {c i:Option MV}{Z:Mu}{g:List PV}{p q:PV}(hz:g.length<=900000):
  H5 (Gq "list" (vE 2) (Ak (It (Ak (vE 4) (Ak (vE 3) Bk))) Bk) Apc) [c,i,some (.mu Z.length),some (.p q),some (.p p)] (Z++[some (.lst g)])=
   some (.next,[c,i,some (.mu Z.length),some (.p q),some (.p p)],Z++[some (.lst (g++[p,q]))]):=
 R4 (Qi rfl (An6 Sf) (Bz rfl rfl) ((A5y Sf (Ab (Bp hz 2) (by decide))).trans (congrArg (fun z=>some (MV.p .none,z)) Ah8)))
theorem Amt (c i a b:Option MV)(x:Str)(Z:Mu)(g:List PV)(R:okT x=true)(hz:g.length<=900000):
  ∃a' b',Wy [c,i,some (.mu Z.length),some (.p (.str x)),b] (Z++[some (.lst g)])=some (.next,[c,i,some (.mu Z.length),a',b'],Z++[some (.lst (g++Gw x))]):=by
 unfold Wy Gw;cases L:Kb (oS "._+-") x with
 |true=>exact exi2 _ _ (sN (iF (!Kb (oS "._+-") x) rfl (by rw[L];rfl) rfl) (by rw[if_pos rfl,Ct];rfl))
 |false=>
  rw[if_neg (by decide)];unfold Sj;cases H:PySem.intText? x with
  |some n=>exact exi2 _ _ (sN (iT (!Kb (oS "._+-") x) rfl (by rw[L];rfl) (sN (A2j rfl R H) (sN (Aez hz) rfl))) rfl)
  |none=>exact exi2 _ _ (sN (iT (!Kb (oS "._+-") x) rfl (by rw[L];rfl) (sN (Ax2 rfl R H) (sN (Aez hz) rfl))) rfl)
theorem Ajk (c i:Option MV)(Z:Mu)(l:List Str):∀(a b:Option MV) (g:List PV),(∀x∈l,okT x=true)->g.length+2*l.length<=900000->
  ∃a' b',Eo (Bc 3) Wy (l.map fun x=>.p (.str x)) [c,i,some (.mu Z.length),a,b] (Z++[some (.lst g)])=some (.next,[c,i,some (.mu Z.length),a',b'],Z++[some (.lst (g++Y7 l))]):=by
 induction l with
 |nil=>exact fun a b g _ _=>exi2 a b (by rw[show Y7 []=[] from rfl,Ct];rfl)
 |cons x l J=>
  intro a b g h hz;refine exe2 (Amt c i a b x Z g (h x (.head _)) (Ab (Bl _ _) hz)) fun v V W=>?_;refine exe2 (J v V (g++Gw x) (fun y T=>h y (.tail _ T)) (Ab (by rw[As,qi,Lk,Dj,Cu (Gw x).length];exact Ar (Ar (Alf x) _) _) hz)) fun k f D=>?_;exact⟨k,f,(Ab8 rfl W).trans (D.trans (by rw[Az];rfl))⟩
noncomputable def Tl (x:Str):Bool:=decide (x.cps.size<=600)&&x.cps.toList.all fun c=>decide (c<128)
noncomputable def Vn:FM:=fun xs Z=>((Ahu xs).bind MV.s?).bind fun x=>if Tl x=true then some (.list (Y7 (Pz (Ez (x.cps.size+1) x.cps.toList))),Z) else none
set_option tactic.hygienic true in
theorem N1:∀(f:Nat) (l:List Nat),∀p∈Ez f l,p.length<=l.length/\∀c∈p,c∈l
 |0,l,p,h=>by
  rw[A6.mp h];exact⟨At _,fun _ h=>h⟩
 |f+1,l,p,h=>by
  have t:∀(P:Nat->Bool) (l:List Nat),(l.takeWhile P).length<=l.length/\∀c∈l.takeWhile P,c∈l:=fun P l=>⟨(Aqv P).length_le,fun c L=>(Aqv P).subset L⟩;have d:∀(P:Nat->Bool) (l:List Nat),(l.dropWhile P).length<=l.length/\∀c∈l.dropWhile P,c∈l:=fun P l=>⟨(Aqs P).length_le,fun c L=>(Aqs P).subset L⟩;rw[N0] at h;have w:=d (fun c=> !tk c) l;split at h
  ·rw[A6.mp h];exact t _ _
  ·rename_i c r g;rw[g] at w;split at h
   ·rcases Av.mp h with rfl|h
    ·exact t _ _
    ·rcases Av.mp h with rfl|h
     ·have:=t dg (c::r);exact⟨Ab this.1 w.1,fun x R=>w.2 x (this.2 x R)⟩
     ·have:=d dg (c::r);exact⟨Ab (N1 f _ p h).1 (Ab this.1 w.1),fun x R=>w.2 x (this.2 x ((N1 f _ p h).2 x R))⟩
   ·rcases Av.mp h with rfl|h
    ·exact t _ _
    ·rcases Av.mp h with rfl|h
     ·refine⟨Ab (by simp) w.1,fun x R=>w.2 x ?_⟩;rw[A6.mp R];exact .head _
     ·have i:=N1 f _ p h;exact⟨Ab i.1 (Ab (J1 _) w.1),fun x R=>w.2 x (.tail _ (i.2 x R))⟩
theorem Ard {x:Str}(h:Tl x=true):∀y∈Pz (Ez (x.cps.size+1) x.cps.toList),okT y=true:=fun y T=>by
 unfold Tl at h;rw[A0] at h;obtain⟨p,I,rfl⟩:=Bj.mp T;unfold okT;rw[A0];exact⟨decide_eq_true (Ab (show p.toArray.size<=x.cps.size from(N1 _ _ p I).1) (Ab (of_decide_eq_true h.1) (by decide))),Bd.mpr fun c L=>Bd.mp h.2 c ((N1 _ _ p I).2 c (show c∈p from L))⟩
theorem Ams (x:Str)(Z:Mu)(h:Tl x=true):Fq 1 5 Ag9 [.p (.str x)] Z=some (.list (Y7 (Pz (Ez (x.cps.size+1) x.cps.toList))),Z):=by
 have hz:x.cps.size<=600:=by unfold Tl at h;rw[A0] at h;exact of_decide_eq_true h.1
 have w:=Ard h;have S:([]:List PV).length+2*(Pz (Ez (x.cps.size+1) x.cps.toList)).length<=900000:=by
  rw[qj,Cg,show(Pz (Ez (x.cps.size+1) x.cps.toList)).length=_ from Bn ..];exact Ab (Au 2 (Ab (Sd (x.cps.size+1) x.cps.toList) (Bp (Au 2 (A3 hz)) 1))) (by decide)
 have a:Ah6 85 [.p (.fn 85),.p (.str x)] (Z++[some (.lst [])])=some (.p (.list ((Pz (Ez (x.cps.size+1) x.cps.toList)).map .str)),Z++[some (.lst [])]):=if_pos ⟨rfl,Ab hz (by decide)⟩;generalize Pz (Ez (x.cps.size+1) x.cps.toList)=L at w S a |-
 refine exe2 (Ajk (some (.p (.str x))) (some (.p (.fn 85))) Z L none none [] w S) fun a' b' e=>?_;have i:R8 (Z3 (Ace 85 (vE 1) (Ak (vE 0) Bk) (Ah6 85))) (Bc 3) Wy [some (.p (.str x)),some (.p (.fn 85)),some (.mu Z.length),none,none] (Z++[some (.lst [])])=some (.next,[some (.p (.str x)),some (.p (.fn 85)),some (.mu Z.length),a',b'],Z++[some (.lst (Y7 L))]):=by
  have p:∀Z':Mu,Kp Z' (.p (.list (L.map .str)))=some (L.map fun x=>MV.p (.str x)):=fun Z'=>congrArg some (F6 ..);exact Avm (Gh (Acf rfl (Bz rfl rfl) a) (Is (p _))) ((R7 (items:=L.map fun x=>MV.p (.str x)) (fun j Z'=>Vx (p Z') j) _ 0 _ _ (Ob _) (Cb _)).trans (by rw[Gy,e,qm]))
 refine(No (V':=[some (.p (.str x)),some (.p (.fn 85)),some (.mu Z.length),a',b']) (Z':=Z++[some (.lst (Y7 L))]) (r:=.mu Z.length) ?_ rfl ?_).trans (congrArg (fun z=>some (_,z)) K1)
 ·unfold Ag9;exact sN (Fu rfl rfl) (sN (Fu rfl rfl) (sN i (Fd (Kw rfl))))
 ·show(if _ then _ else _)=_;rw[if_pos (At _),Sf]
section
variable {w:F7}{mean:Hs->Option Ac}{v0:Option Ac}{tabs:List Dx}
theorem Au2:FCC (cx w mean v0 tabs) 4 93 Vn:=Au3.spec fun C Z r e=>Aw e fun x W e=>Aw W fun z D N=>by
 rw[Zo D,MV.s_i N,<-(Am e).2];exact Ams _ Z (Am e).1
end
end
section
seal SE SL SB SXT STg STs SI ON O1 O2 SP SA SBs SC OI FC SXQ SEQ SXE
section
variable {w:F7}{mean:Hs->Option Ac}{v0:Option Ac}{tabs:List Dx}
noncomputable def A65:Sg:={names:=[("args",.local),("platform",.local),("cleaned",.local),("filter",.globalImplicit),("len",.globalImplicit)],vars:=[("args",.loc),("platform",.loc),("cleaned",.loc)]}
noncomputable def Vy:SM:=(B5 (Cp (Mv (vE 1) (oS "--") (oS "-")) (Bc 2)) (B5 (ifX (tB (bE eqF (vE 2) (vE 1))) (B5 A5n E5) E5) (B5 (Cp (vE 2) (Bc 1)) E5)))
noncomputable def Acq:SM:=
 (B5 (Cp (Mv (vE 1) (oS " ") (oS "_")) (Bc 1))
 (B5 (Cp (Mv (vE 1) (oS "/") (oS "-")) (Bc 1))
 (B5 (Cp (Mv (vE 1) (oS "\\") (oS "-")) (Bc 1))
 (B5 (Cp (Mv (vE 1) (oS ":") (oS "-")) (Bc 1))
 (B5 (Cp (Mv (vE 1) (oS ";") (oS "-")) (Bc 1))
 (B5 (Cp (Mv (vE 1) (oS "\"") (oS "-")) (Bc 1))
 (B5 (Cp (Mv (vE 1) (oS "(") (oS "-")) (Bc 1))
 (B5 (Cp (Mv (vE 1) (oS ")") (oS "-")) (Bc 1))
 (B5 (Cp (Mv (vE 1) (oS "unknown") (oS "")) (Bc 1))
 (B5 (F8 (tB (kE (.bool true))) Vy 100)
 (B5 (F8 (Ads (tB (vE 1)) (Ads (tB (bE eqF (bE D6 (vE 1) (uE Ku (kE (.int 1)))) (kE (.str "-")))) (Vo true))) (B5 (Cp (A13 (vE 1) (atP (uE Ku (kE (.int 1))))) (Bc 1)) E5) 100)
 (B5 (O6 (vE 1))
 E5))))))))))))
theorem A1u (n:Ad5∈tabs):FC (cx w mean v0 tabs) 4 100 (Aoz 3 (Ap6 0 1 Acq)):=
 Azd (S:=A65) (x:="args") {look:=rfl,data:=rfl,clos:=rfl,glob:=rfl,blt:=rfl,body:=rfl,code:=rfl,kind:=rfl,gen:=rfl,cor:=rfl,names:=rfl,fits:=by decide+kernel,bind:=fun b=>match b with|[]=>rfl|_::_=>rfl,slots:=⟨.loc,rfl,by decide⟩}
 (Aub (q:=Ad5) n (i:=0) (j:=1) (vk:=.loc) (vk':=.loc) rfl rfl rfl rfl (by decide) (by decide) (by decide) rfl rfl (mbD w mean v0 tabs Boot.«filter») rfl rfl (mbD w mean v0 tabs Boot.«len») rfl (by decide) (by decide) rfl rfl rfl (by decide) rfl rfl rfl rfl
 (H4 (Ip (Ht (vn 1 "platform" rfl) (fun _=>rfl) rfl) (tn 1 .loc rfl) rfl rfl (fun _=>rfl))
 (H4 (Ip (Ht (vn 1 "platform" rfl) (fun _=>rfl) rfl) (tn 1 .loc rfl) rfl rfl (fun _=>rfl))
 (H4 (Ip (Ht (vn 1 "platform" rfl) (fun _=>rfl) rfl) (tn 1 .loc rfl) rfl rfl (fun _=>rfl))
 (H4 (Ip (Ht (vn 1 "platform" rfl) (fun _=>rfl) rfl) (tn 1 .loc rfl) rfl rfl (fun _=>rfl))
 (H4 (Ip (Ht (vn 1 "platform" rfl) (fun _=>rfl) rfl) (tn 1 .loc rfl) rfl rfl (fun _=>rfl))
 (H4 (Ip (Ht (vn 1 "platform" rfl) (fun _=>rfl) rfl) (tn 1 .loc rfl) rfl rfl (fun _=>rfl))
 (H4 (Ip (Ht (vn 1 "platform" rfl) (fun _=>rfl) rfl) (tn 1 .loc rfl) rfl rfl (fun _=>rfl))
 (H4 (Ip (Ht (vn 1 "platform" rfl) (fun _=>rfl) rfl) (tn 1 .loc rfl) rfl rfl (fun _=>rfl))
 (H4 (Ip (Ht (vn 1 "platform" rfl) (fun _=>rfl) rfl) (tn 1 .loc rfl) rfl rfl (fun _=>rfl))
 (H4 (Aq8 100 (Aax Aad (fun _ _=>rfl)) (H4 (Ip (Ht (vn 1 "platform" rfl) (fun _=>rfl) rfl) (tn 2 .loc rfl) rfl rfl (fun _=>rfl)) (H4 (.of (So (Gt (vn 2 "cleaned" rfl) (vn 1 "platform" rfl) (Lm (by decide)) rfl) (Bf Auc Ce) Ce)) (H4 (.of (Bq (vn 2 "cleaned" rfl) (tn 1 .loc rfl) rfl rfl (fun _=>rfl))) (.of Ce)))))
 (H4 (.of (Aa2 100 (Agq (Agp (Aax (vn 1 "platform" rfl) (fun _ _=>rfl)) (Agp (Gt (Ec (vn 1 "platform" rfl) (Kc A7 I2) (Dl _ _ (fun _ _ _=>rfl))) Dk (Lm (by decide)) rfl) Al8))) (Bf (Bq (Aq6 (vn 1 "platform" rfl) (Ly (Kc A7 I2))) (tn 1 .loc rfl) rfl rfl (fun _=>rfl)) Ce)))
 (H4 (.of (Jo (vn 1 "platform" rfl)))
 (.of Ce))))))))))))))
end
end
section
section
variable {fld:Nat->List Nat}
theorem H0 {f r:SM}{V V':Sl}{Z Z':Mu}(h:f V Z=some (.next,V',Z')):B5 f r V Z=r V' Z':=by unfold B5;rw[h];rfl
noncomputable def pT (a c:Option MV)(x:Str):Sl:=[a,some (.p (.str x)),c]
theorem Ak1 {a c:Option MV}{x y z:Str}{Z:Mu}(U:(y==z)=false)(O:x.length<=1000)(C:z.length<=1):Cp (Mv (vE 1) y z) (Bc 1) (pT a c x) Z=some (.next,pT a c (J3 x y z),Z):=by
 have R:(x.length+1)*z.length<=(x.length+1)*1:=Au _ C;have L:(y==z)=false/\x.length+(x.length+1)*z.length<=16777216:=⟨U,(Ab (Ax O (Ab R (Gn _ (A3 O)))) (by decide))⟩;have e:Mv (vE 1) y z (pT a c x) Z=some (.p (.str (J3 x y z)),Z):=by
  show(if(y==z)=false/\x.length+(x.length+1)*z.length<=16777216 then _ else none)=_;rw[if_pos L]
 unfold Cp;rw[e];rfl
theorem Asd {a c:Option MV}{x y z:Str}{Z:Mu}(U:(y==z)=false)(O:x.length<=1000)(C:z.length<=1):Cp (Mv (vE 1) y z) (Bc 2) (pT a c x) Z=some (.next,pT a (some (.p (.str (J3 x y z)))) x,Z):=by
 have R:(x.length+1)*z.length<=(x.length+1)*1:=Au _ C;have L:(y==z)=false/\x.length+(x.length+1)*z.length<=16777216:=⟨U,(Ab (Ax O (Ab R (Gn _ (A3 O)))) (by decide))⟩;have e:Mv (vE 1) y z (pT a c x) Z=some (.p (.str (J3 x y z)),Z):=by
  show(if(y==z)=false/\x.length+(x.length+1)*z.length<=16777216 then _ else none)=_;rw[if_pos L]
 unfold Cp;rw[e];rfl
noncomputable def Pj:Nat->List Tk->List Tk
 |0,t=>t
 |n+1,t=>if col t=t then t else Pj n (col t)
theorem Au0 (n:Nat)(t:List Tk):Pj (n+1) t=if col t=t then t else Pj n (col t):=rfl
theorem A33 (H:Om fld){a:Option MV}{Z:Mu}:∀(n m:Nat) (t:List Tk) (c:Option MV),t.length<=n->n<m->t.length<=40->∃c',F8 (tB (kE (.bool true))) Vy m (pT a c (Et fld t)) Z=some (.next,pT a c' (Et fld (Pj n t)),Z)
 |n,0,t,c,h,R,_=>absurd R (Vc _)
 |n,m+1,t,c,h,R,b=>by
  have W:=Asd (a:=a) (c:=c) (x:=Et fld t) (y:=ofL [45,45]) (z:=ofL [45]) (Z:=Z) (by decide) (Ul H b) (by decide);rw[Aw7 H] at W;have D:Vy (pT a c (Et fld t)) Z=(if Et fld (col t)=Et fld t then some (.brk,pT a (some (.p (.str (Et fld (col t))))) (Et fld t),Z) else some (.next,pT a (some (.p (.str (Et fld (col t))))) (Et fld (col t)),Z)):=by
   show B5 (Cp (Mv (vE 1) (ofL [45,45]) (ofL [45])) (Bc 2)) _ _ _=_;rw[H0 W];have d:tB (bE eqF (vE 2) (vE 1)) (pT a (some (.p (.str (Et fld (col t))))) (Et fld t)) Z=some (Et fld (col t)==Et fld t,Z):=rfl;unfold B5 ifX;rw[d];by_cases p:Et fld (col t)=Et fld t
   ·rw[if_pos p,show(Et fld (col t)==Et fld t)=true by simpa using p];rfl
   ·rw[if_neg p,show(Et fld (col t)==Et fld t)=false by simpa using p];rfl
  have N:F8 (tB (kE (.bool true))) Vy (m+1) (pT a c (Et fld t)) Z=(Vy (pT a c (Et fld t)) Z).bind fun y=>(match y.1 with
   | .next=>F8 (tB (kE (.bool true))) Vy m y.2.1 y.2.2
   | .cont=>F8 (tB (kE (.bool true))) Vy m y.2.1 y.2.2
   | .brk=>some (.next,y.2.1,y.2.2)
   | .ret v=>some (.ret v,y.2.1,y.2.2)):=rfl
  rw[N,D];by_cases L:col t=t
  ·rw[if_pos (by rw[L])];refine⟨some (.p (.str (Et fld (col t)))),?_⟩;have:Pj n t=t:=by cases n with
    |zero=>rfl
    |succ n=>exact if_pos L
   rw[this];rfl
  ·rw[if_neg (Ak2 L)];obtain⟨q1,q2,q3⟩:=Ww (fld:=fld) _ t (At _);have M:(col t).length<t.length:=Ea q3 fun e=>L (q2 e);cases n with
   |zero=>exact absurd M (C0 (Ab h (Cb _)))
   |succ n=>
    have J:=A33 H n m (col t) (some (.p (.str (Et fld (col t))))) (Z:=Z) (a:=a) (Ai (Ay M h)) (Ai R) (Ab q3 b);obtain⟨c',J⟩:=J;refine⟨c',?_⟩;have:Pj (n+1) t=Pj n (col t):=by exact if_neg L
    rw[this];exact J
noncomputable def Xk:Nat->List Tk->List Tk
 |0,t=>t
 |n+1,t=>if t.getLast?=some (.c 45) then Xk n t.dropLast else t
theorem A2i (n:Nat)(t:List Tk):Xk (n+1) t=if t.getLast?=some (.c 45) then Xk n t.dropLast else t:=rfl
noncomputable def Aqj:BM:=(Ads (tB (vE 1)) (Ads (tB (bE eqF (bE D6 (vE 1) (uE Ku (kE (.int 1)))) (kE (.str "-")))) (Vo true)))
noncomputable def Ax1:SM:=(B5 (Cp (A13 (vE 1) (atP (uE Ku (kE (.int 1))))) (Bc 1)) E5)
theorem An5 {a c:Option MV}{Z:Mu}:Aqj (pT a c (ofL [])) Z=some (false,Z):=rfl
theorem Asj {a c:Option MV}{Z:Mu}{l:List Nat}{d:Nat}(h:l.length<=1000):Aqj (pT a c (ofL (l++[d]))) Z=some (d==45,Z):=by
 have N:(ofL (l++[d])).length=l.length+1:=by rw[H9];simp
 have f:tB (vE 1) (pT a c (ofL (l++[d]))) Z=some (true,Z):=by
  show((Y5 (.p (.str (ofL (l++[d]))))).map fun b=>(b,Z))=_;unfold Y5;dsimp only;rw[N,if_pos (Ab (Ab (Aj (Eq.symm N)) (Ab (Aj N) (A3 h))) (by decide))];have:(((l.length+1:Nat):Int) != 0)=true:=by simp;exact F9 (Int.add_le_add (By _) (by decide))
  rw[this];rfl
 have U:D6 (.p (.str (ofL (l++[d])))) (.p (.int (-1))) Z=some (.p (.str ⟨#[d]⟩),Z):=by
  show(if(ofL (l++[d])).length<=16777216 then(idx (-1) (ofL (l++[d])).length).bind _ else none)=_;rw[N,if_pos (Ab (Ab (Aj (Eq.symm N)) (Ab (Aj N) (A3 h))) (by decide))];have:idx (-1) (l.length+1)=some l.length:=by
   unfold idx;rw[if_pos (by decide),if_pos (by lia)]
   congr 1;exact A3s _
  rw[this];have:(ofL (l++[d])).cps[l.length]?=some d:=by unfold ofL;simp
  show((ofL (l++[d])).cps[l.length]?).map _=_;rw[this];rfl
 have t:tB (bE eqF (bE D6 (vE 1) (uE Ku (kE (.int 1)))) (kE (.str "-"))) (pT a c (ofL (l++[d]))) Z=some (d==45,Z):=by
  have:bE D6 (vE 1) (uE Ku (kE (.int 1))) (pT a c (ofL (l++[d]))) Z=some (.p (.str ⟨#[d]⟩),Z):=U
  unfold tB;rw[show bE eqF (bE D6 (vE 1) (uE Ku (kE (.int 1)))) (kE (.str "-")) (pT a c (ofL (l++[d]))) Z=some (.p (.bool ((⟨#[d]⟩:Str)==oS "-")),Z) by
   unfold bE;rw[show((vE 1 (pT a c (ofL (l++[d]))) Z).bind fun x=>(uE Ku (kE (.int 1)) (pT a c (ofL (l++[d]))) x.2).bind fun y=>D6 x.1 y.1 y.2)=some (.p (.str ⟨#[d]⟩),Z) from U]
   rfl]
  have:((⟨#[d]⟩:Str)==oS "-")=(d==45):=by
   rw[Hv,beq_iff_eq,beq_iff_eq];constructor
   ·intro e;have:=congrArg (fun x=>x.cps.toList) e;have:[d]=[45]:=this;exact(Hw this).1
   ·intro e;rw[e];rfl
  rw[this];rfl
 unfold Aqj Ads;rw[f];rw[qc];simp only[if_true,t,qc];cases d==45<;>rfl
theorem Asi {a c:Option MV}{Z:Mu}{x:Str}(I:1<=x.length)(h:x.length<=1001):Ax1 (pT a c x) Z=some (.next,pT a c (ofL x.cps.toList.dropLast),Z):=by
 have e:A13 (vE 1) (atP (uE Ku (kE (.int 1)))) (pT a c x) Z=some (.p (.str (Aeg x none (some (-1)))),Z):=by
  show(if x.length<=16777216 then _ else none)=_;rw[if_pos (Ab h (by decide))]
 unfold Ax1;rw[H0 (V':=pT a c (Aeg x none (some (-1)))) (Z':=Z) (by unfold Cp;rw[e];rfl),Anx x I];rfl
theorem A34 (H:Om fld){a c:Option MV}{Z:Mu}:∀(n m:Nat) (t:List Tk),t.length<=n->n<m->t.length<=40->F8 Aqj Ax1 m (pT a c (Et fld t)) Z=some (.next,pT a c (Et fld (Xk n t)),Z)
 |n,0,t,h,z,_=>absurd z (Vc _)
 |n,m+1,t,h,z,b=>by
  rw[Alg];rcases Asw t with rfl|⟨t0,x,rfl⟩
  ·have e:Et fld []=ofL []:=rfl;rw[e,An5];have:Xk n []=[]:=by cases n with
    |zero=>rfl
    |succ n=>exact if_neg (by simp)
   rw[this];rfl
  ·rw[Asv] at h b |-
   refine exe2 (Ase H t0 x) fun d l u=>?_;obtain⟨U,O,C⟩:=u;have o:=Ul H b;have w:Et fld (t0++[x])=ofL ((Dz fld t0++l)++[d]):=by unfold Et;rw[O]
   have N:(Dz fld t0++l).length<=1000:=by
    rw[w,H9,As] at o;simp only[qi,qj] at o;exact Bm o
   rw[w,Asj N];simp only[As,qi,qj] at h b;by_cases R:x=.c 45
   ·have hd:=C.mpr R;subst R hd;have Y:((45:Nat)==45)=true:=rfl;rw[Y];cases n with
    |zero=>lia
    |succ n=>
     have J:Xk (n+1) (t0++[.c 45])=Xk n t0:=by
      conv=>lhs;rw[A2i]
      rw[if_pos (by simp),Atg]
     have f:l=[]:=by
      have:[45]=l++[45]:=U;have:=congrArg Ati this;simp at this;exact this
     subst f;have i:=Asi (a:=a) (c:=c) (Z:=Z) (x:=ofL ((Dz fld t0++[])++[45])) (by rw[H9];simp) (by rw[H9,As];simp only[qi,qj];exact A3 N);rw[Sb,Atg,Ct] at i;rw[qc];simp only[if_true,Ct,i,J,qc];exact A34 H n m t0 (K9 h) (Ai z) (Bm b)
   ·have hd:(d==45)=false:=by simpa using fun e=>R (C.mp e)
    rw[hd];have J:Xk n (t0++[x])=t0++[x]:=by cases n with
     |zero=>rfl
     |succ n=>exact if_neg (by simpa using R)
    rw[J,w];rfl
end
end
section
noncomputable def s1 (t:List Tk):List Tk:=((((((((t.map (sw 32 95)).map (sw 47 45)).map (sw 92 45)).map (sw 58 45)).map (sw 59 45)).map (sw 34 45)).map (sw 40 45)).map (sw 41 45))
noncomputable def A50 (t:List Tk):List Tk:=Xk 40 (Pj 40 ((s1 t).filter Acj))
theorem s32:oS " "=ofL [32]:=rfl
theorem s95:oS "_"=ofL [95]:=rfl
theorem s47:oS "/"=ofL [47]:=rfl
theorem s45:oS "-"=ofL [45]:=rfl
theorem s92:oS "\\"=ofL [92]:=rfl
theorem s58:oS ":"=ofL [58]:=rfl
theorem s59:oS ";"=ofL [59]:=rfl
theorem s34:oS "\""=ofL [34]:=rfl
theorem s40:oS "("=ofL [40]:=rfl
theorem s41:oS ")"=ofL [41]:=rfl
theorem Bcn:oS "unknown"=ofL unk:=rfl
theorem Bck:oS ""=ofL []:=rfl
section
variable {fld:Nat->List Nat}
theorem Ql (H:Om fld){a c:Option MV}{Z:Mu}{t:List Tk}(b:t.length<=40){y z:Str}{p q:Nat}(T:y=ofL [p])(hz:z=ofL [q])(I:p∈[32,47,92,58,59,34,40,41,45,117])(g:p∉unk)(h:p≠q):
  Cp (Mv (vE 1) y z) (Bc 1) (pT a c (Et fld t)) Z=some (.next,pT a c (Et fld (t.map (sw p q))),Z):=by
 subst T hz;rw[<-A1y H I g];refine Ak1 ?_ (Ul H b) (by rw[H9];exact At _);rw[beq_eq_false_iff_ne];intro e;have:=congrArg (fun x=>x.cps.toList) e;have:[p]=[q]:=this;exact h (Hw this).1
theorem Aps:∀(n:Nat) (t:List Tk),(Pj n t).length<=t.length
 |0,t=>At _
 |n+1,t=>by
  rw[Au0];split
  ·exact At _
  ·exact Ab (Aps n (col t)) (Ww (fld:=fun _=>[]) _ t (At _)).2.2
theorem Aw3 (H:Om fld){a c:Option MV}{Z:Mu}{t:List Tk}(b:t.length<=39)(e:Tk.c 117∉s1 t):∃V',Acq (pT a c (Et fld t)) Z=some (.ret (.p (.str (Et fld (A50 t)))),V',Z):=by
 have m:∀{f:List Tk},f.length<=39->∀p q,(f.map (sw p q)).length<=39:=fun h p q=>by rw[Bn];exact h
 have w:∀{f:List Tk},f.length<=39->f.length<=40:=fun h=>(Ab h (by decide));have s:=m (m b 32 95) 47 45;have u:=m (m (m s 92 45) 58 45) 59 45;have n:=m (m (m u 34 45) 40 45) 41 45;have W:=Ql H (a:=a) (c:=c) (Z:=Z) (w b) s32 s95 (by decide) (by decide) (by decide);have D:=Ql H (a:=a) (c:=c) (Z:=Z) (w (m b 32 95)) s47 s45 (by decide) (by decide) (by decide);have N:=Ql H (a:=a) (c:=c) (Z:=Z) (w s) s92 s45 (by decide) (by decide) (by decide);have O:=Ql H (a:=a) (c:=c) (Z:=Z) (w (m s 92 45)) s58 s45 (by decide) (by decide) (by decide);have r:=Ql H (a:=a) (c:=c) (Z:=Z) (w (m (m s 92 45) 58 45)) s59 s45 (by decide) (by decide) (by decide);have d:=Ql H (a:=a) (c:=c) (Z:=Z) (w u) s34 s45 (by decide) (by decide) (by decide);have k:=Ql H (a:=a) (c:=c) (Z:=Z) (w (m u 34 45)) s40 s45 (by decide) (by decide) (by decide);have B:=Ql H (a:=a) (c:=c) (Z:=Z) (w (m (m u 34 45) 40 45)) s41 s45 (by decide) (by decide) (by decide);have v:Cp (Mv (vE 1) (oS "unknown") (oS "")) (Bc 1) (pT a c (Et fld (s1 t))) Z=some (.next,pT a c (Et fld ((s1 t).filter Acj)),Z):=by
  rw[Bcn,Bck,<-Aw8 H e];exact Ak1 (by decide) (Ul H (w n)) (by decide)
 have j:((s1 t).filter Acj).length<=39:=Ab (Asx _ _) n;obtain⟨c',g⟩:=A33 H (a:=a) (Z:=Z) 40 100 ((s1 t).filter Acj) c (w j) (by decide) (w j);have l:(Pj 40 ((s1 t).filter Acj)).length<=39:=Ab (Aps _ _) j;have i:=A34 H (a:=a) (c:=c') (Z:=Z) 40 100 (Pj 40 ((s1 t).filter Acj)) (w l) (by decide) (w l);refine⟨pT a c' (Et fld (A50 t)),?_⟩;exact(H0 W).trans<|(H0 D).trans<|(H0 N).trans<|(H0 O).trans<|(H0 r).trans<|(H0 d).trans<|(H0 k).trans<|(H0 B).trans<|(H0 v).trans<|(H0 g).trans<|(H0 i).trans rfl
end
end
section
noncomputable def Zp:FM:=Aoz 3 (Ap6 0 1 Acq)
noncomputable def Oi:Nat->List Tk
 |0=>[.c 47]|1=>[.c 92]|2=>[.c 58]|3=>[.c 59]|4=>[.c 34]|5=>[.c 40]|6=>[.c 41]|7=>[.c 32]|8=>[.c 45,.c 45]|_=>[.c 45,.u,.c 45]
noncomputable def Hm:Nat->List Nat
 |0=>[47]|1=>[92]|2=>[58]|3=>[59]|4=>[34]|5=>[40]|6=>[41]|7=>[32]|8=>[45,45]|_=>[45,117,110,107,110,111,119,110,45]
noncomputable def Jw (k:Nat):Nat:=if k=7 then 95 else 45
noncomputable def E1 (s:List Tk):List Nat->List Tk
 |[]=>[]
 |[i]=>[.f i]
 |i::j::r=>.f i::(s++E1 s (j::r))
noncomputable def Tx (k:Nat)(l:List Nat):List Tk:=if k=7 then E1 (Oi k) l else Oi k++(E1 (Oi k) l++Oi k)
noncomputable def Ab3 (k:Nat)(l:List Nat):List Tk:=.f 0::.c 45::.u::.c 45::Tx k l
theorem A0v:∀k<10,∀l∈[[1],[1,2],[1,2,3],[1,2,3,4]],A50 (Ab3 k l)=.f 0::.c 45::E1 [.c (Jw k)] l/\(Ab3 k l).length<=39/\Tk.c 117∉s1 (Ab3 k l):=by decide+kernel
section
variable {fld:Nat->List Nat}
theorem Acx:∀k<10,Dz fld (Oi k)=Hm k
 :=A3m rfl rfl rfl rfl rfl rfl rfl rfl rfl rfl
theorem Zj (s:List Tk):∀l:List Nat,Et fld (E1 s l)=I7 (Et fld s) (l.map fun i=>ofL (fld i))
 |[]=>rfl
 |[i]=>by
  show ofL (Dz fld [.f i])=ofL (fld i);unfold Dz;simp[tf]
 |i::j::r=>by
  show ofL (Dz fld (.f i::(s++E1 s (j::r))))=ofL (fld i)++Et fld s++I7 (Et fld s) ((j::r).map fun i=>ofL (fld i));rw[<-(Zj s (j::r))];apply Ld;rw[Dn,Hn,B4,B4,Be,Be];show fld i++(Dz fld s++Dz fld (E1 s (j::r)))=fld i++Dz fld s++Dz fld (E1 s (j::r));rw[Az]
end
noncomputable def Vj (x:Str):Prop:=x.cps.toList≠[]/\x.cps.toList.length<=25/\∀c∈x.cps.toList,C9 c=false/\c∉[32,47,92,58,59,34,40,41,45,117]
noncomputable def K2 (J:List Str):Nat->List Nat
 |0=>[114,105,110,103]
 |i+1=>(J[i]?.getD (ofL [120])).cps.toList
theorem Avk {J:List Str}(h:∀x∈J,Vj x):Om (K2 J):=by
 have key:∀i:Nat,Vj (J[i]?.getD (ofL [120])):=fun i=>by
  cases e:J[i]? with
  |none=>exact⟨by decide,by decide,by decide⟩
  |some x=>exact h x (Bo e)
 have k:Vj (ofL [114,105,110,103]):=⟨by decide,by decide,by decide⟩;refine⟨fun i=>?_,fun i=>?_,fun i=>?_⟩<;>cases i with
 |zero=>first|exact k.1|exact k.2.1|exact k.2.2
 |succ i=>first|exact(key i).1|exact(key i).2.1|exact(key i).2.2
theorem Arl (fs:List Str):∀(l:List Nat),l=(Gb fs.length).map (·+1)->(l.map fun i=>ofL (K2 fs i))=fs:=by
 rintro _ rfl;rw[F6];apply A21;intro i;rw[B0];by_cases H:i<fs.length
 ·rw[Ayl H,Bx H];show some (ofL (fs[i]?.getD (ofL [120])).cps.toList)=_;rw[Bx H];show some (ofL fs[i].cps.toList)=_;rw[Acm]
 ·rw[Io (by simpa using H),Io (by simpa using H)];rfl
end
section
section
variable {fld:Nat->List Nat}
theorem Zk {u:Type}(a b:List u)(h:b≠[]):(a++b).getLast?=b.getLast?:=by
 rcases Asw b with rfl|⟨b0,x,rfl⟩
 ·exact absurd rfl h
 ·rw[Asv,<-Az,Ath,Ath]
theorem R5 (H:Om fld)(s:List Tk):∀l:List Nat,l≠[]->Dz fld (E1 s l)≠[]/\(∀c,(Dz fld (E1 s l)).head?=some c->C9 c=false)/\(∀c,(Dz fld (E1 s l)).getLast?=some c->C9 c=false)
 |[],h=>absurd rfl h
 |[i],_=>by
  have e:Dz fld (E1 s [i])=fld i:=by show Dz fld [.f i]=_;unfold Dz;simp[tf]
  rw[e];exact⟨H.ne i,fun c L=>(H.ok i c (List.mem_of_head? L)).1,fun c L=>(H.ok i c (Atj L)).1⟩
 |i::j::r,_=>by
  refine Aa fun z=>?_;obtain⟨U,O,C⟩:=R5 H s (j::r) (by simp);refine z ?_;have e:Dz fld (E1 s (i::j::r))=fld i++(Dz fld s++Dz fld (E1 s (j::r))):=by
   show Dz fld (.f i::(s++E1 s (j::r)))=_;rw[Dn,Hn];rfl
  rw[e];refine⟨by simp[H.ne i],fun c L=>?_,fun c L=>?_⟩
  ·cases D:fld i with
   |nil=>exact absurd D (H.ne i)
   |cons d q=>
    rw[D] at L;have:d=c:=by simpa using L
    exact(H.ok i c (by rw[D,<-this];exact An ..)).1
  ·rw[<-Az,Zk _ _ U] at L;exact C c L
theorem Axi:∀k<10,k≠7->Hm k≠[]/\(∀c,(Hm k).head?=some c->C9 c=false)/\(∀c,(Hm k).getLast?=some c->C9 c=false):=by
 have key:∀k<10,k≠7->((Hm k).isEmpty=false/\(Hm k).head?.all (fun c=> !C9 c)=true/\(Hm k).getLast?.all (fun c=> !C9 c)=true):=by decide+kernel
 intro k hk K;refine Aa fun X=>?_;obtain⟨U,O,C⟩:=key k hk K;refine X ?_;refine⟨(fun e=>by rw[e] at U;cases U),fun c L=>?_,fun c L=>?_⟩
 ·rw[L] at O;simpa using O
 ·rw[L] at C;simpa using C
theorem Ad4 (H:Om fld){k:Nat}(hk:k<10){l:List Nat}(N:l≠[]):Fj (ofL (Hm k)++Et fld (E1 (Oi k) l)++ofL (Hm k))=Et fld (Tx k l):=by
 have e0:ofL (Hm k)++Et fld (E1 (Oi k) l)++ofL (Hm k)=ofL (Hm k++(Dz fld (E1 (Oi k) l)++Hm k)):=by
  apply Ld;rw[B4,B4,Be,Be,Az];rfl
 rw[e0];obtain⟨U,O,C⟩:=R5 H (Oi k) l N;by_cases K:k=7
 ·subst K;rw[show Tx 7 l=E1 (Oi 7) l from rfl];exact Y3 [32] _ [32] (by decide) (by decide) U O C
 ·obtain⟨q1,q2,q3⟩:=Axi k hk K;have f:Et fld (Tx k l)=ofL (Hm k++(Dz fld (E1 (Oi k) l)++Hm k)):=by
   unfold Et Tx;rw[if_neg K,Hn,Hn,Acx k hk]
  rw[f];have:=Y3 [] (Hm k++(Dz fld (E1 (Oi k) l)++Hm k)) [] (fun _ h=>by cases h) (fun _ h=>by cases h) (by simp[q1]) (fun c L=>by
   cases e:Hm k with
   |nil=>exact absurd e q1
   |cons d r=>rw[e] at L;exact q2 c (by rw[e];simpa using L)) (fun c L=>by
   rw[<-Az,Zk _ _ q1] at L;exact q3 c L)
  rw[qm,Ct] at this;exact this
end
theorem A1x:∀n,1<=n->n<=4->(Gb n).map (·+1)∈[[1],[1,2],[1,2,3],[1,2,3,4]]/\(Gb n).map (·+1)≠[]:=by
 intro n U O;have:n=1\/n=2\/n=3\/n=4:=(Abc O U);rcases this with rfl|rfl|rfl|rfl<;>decide
theorem Ac0 (m:List Nat)(z:m≠[])(U:∀c,m.head?=some c->C9 c=false)(O:∀c,m.getLast?=some c->C9 c=false):Fj (ofL m)=ofL m:=by
 have:=Y3 [] m [] (fun _ h=>by cases h) (fun _ h=>by cases h) z U O;simpa using this
theorem An0:Fj (ofL [114,105,110,103])=ofL [114,105,110,103]:=Ac0 _ (by decide) (fun c h=>by cases h;decide+kernel) (fun c h=>by cases h;decide+kernel)
theorem Asf:Fj (ofL unk)=ofL unk:=Ac0 _ (by decide) (fun c h=>by cases h;decide+kernel) (fun c h=>by cases h;decide+kernel)
theorem Aw2 {fs:List Str}(L:∀x∈fs,Vj x)(U:1<=fs.length)(G:fs.length<=4){k:Nat}(hk:k<10)(Z:Mu):
  Zp [.p (.str ""),.p (.str "ring"),.p (.str "unknown"),.p (.str (ofL (Hm k)++Cs (ofL (Hm k)) fs++ofL (Hm k)))] Z=
   some (.str (oS "ring-"++Cs (ofL [Jw k]) fs),Z):=by
 have H:=Avk L;obtain⟨N,J⟩:=A1x _ U G;have g:=Arl fs _ rfl;generalize E:(Gb fs.length).map (·+1)=l at N J g;refine Aa fun n=>?_;obtain⟨D,A,B⟩:=A0v k hk l N;refine n ?_;have q:∀s:List Tk,Et (K2 fs) (E1 s l)=Cs (Et (K2 fs) s) fs:=fun s=>by
  rw[Zj,g];exact(Ka _ _).symm
 have e:Et (K2 fs) (Oi k)=ofL (Hm k):=by unfold Et;rw[Acx k hk]
 have m:ofL (Hm k)++Cs (ofL (Hm k)) fs++ofL (Hm k)=ofL (Hm k)++Et (K2 fs) (E1 (Oi k) l)++ofL (Hm k):=by rw[q,e]
 rw[m];generalize v:ofL (Hm k)++Et (K2 fs) (E1 (Oi k) l)++ofL (Hm k)=X;have b:Fj X=Et (K2 fs) (Tx k l):=by rw[<-v];exact Ad4 H hk J
 have h:(Tx k l).length<=35:=by
  have:(Ab3 k l).length=(Tx k l).length+4:=rfl;lia
 have d:X.length<=1000/\G2 X=true:=by
  have e0:X=Et (K2 fs) (Oi k++(E1 (Oi k) l++Oi k)):=by
   rw[<-v];apply Ld;unfold Et;rw[B4,B4,Be,Be,Sb,Sb,Sb,Hn,Hn,Acx k hk,Az]
  have o:(Oi k++(E1 (Oi k) l++Oi k)).length<=40:=by
   have key:∀k<10,∀l∈[[1],[1,2],[1,2,3],[1,2,3,4]],(Oi k++(E1 (Oi k) l++Oi k)).length<=40:=by decide+kernel
   exact key k hk l N
  refine⟨by rw[e0];exact Ul H o,?_⟩;have:1<=X.length:=by
   obtain⟨q1,_⟩:=R5 H (Oi k) l J;rw[e0];unfold Et;rw[H9,Hn,Hn,As,As];have:=G4.mpr q1;lia
  unfold G2;simp;exact Ga (Ai (Dt this))
 have f:([oS "",oS "ring",oS "unknown",X].filter G2).map Fj=[ofL [114,105,110,103],ofL unk,Et (K2 fs) (Tx k l)]:=by
  have F:G2 (oS "")=false:=rfl;have i:G2 (oS "ring")=true:=rfl;have C:G2 (oS "unknown")=true:=rfl;rw[Jg (by rw[F];decide),Ho i,Ho C,Ho d.2];show[Fj (ofL [114,105,110,103]),Fj (ofL unk),Fj X]=_;rw[An0,Asf,b]
 have p:Afg [oS "",oS "ring",oS "unknown",X]=Et (K2 fs) (Ab3 k l):=by
  unfold Afg;rw[f];refine(Ka _ _).trans ?_;apply Ld;show(ofL [114,105,110,103]++oS "-"++(ofL unk++oS "-"++Et (K2 fs) (Tx k l))).cps.toList=_;rw[B4,B4,B4,B4];simp only[Be];show([114,105,110,103]++[45]++(unk++[45]++Dz (K2 fs) (Tx k l)):List Nat)=Dz (K2 fs) (Ab3 k l);unfold Ab3;rw[Dn,Dn,Dn,Dn];simp only[Az];rfl
 have w:okJ [oS "",oS "ring",oS "unknown",X]=true:=by
  unfold okJ;rw[f];have z:=Ul H (t:=Tx k l) (Ab h (by decide));have:JoinOk (oS "-") [ofL [114,105,110,103],ofL unk,Et (K2 fs) (Tx k l)]=true:=by
   unfold JoinOk Builtin.Str.tooLong;have hq:([ofL [114,105,110,103],ofL unk,Et (K2 fs) (Tx k l)]:List Str).toArray.foldl (fun a x=>a+x.length+(oS "-").length) 0=4+1+7+1+(Et (K2 fs) (Tx k l)).length+1:=rfl;show(!decide ((([ofL [114,105,110,103],ofL unk,Et (K2 fs) (Tx k l)]:List Str).toArray.foldl (fun a x=>a+x.length+(oS "-").length) 0)>Ky))=true;rw[hq];have:¬(4+1+7+1+(Et (K2 fs) (Tx k l)).length+1>Ky):=by unfold Ky;exact C0 (Ab (Ab (Aj (Eq.symm hq)) (Ab (Aj hq) (A3 (Ar z _)))) (by decide))
   rw[decide_eq_false this];rfl
  rw[this];have R:decide (X.length<=100000)=true:=decide_eq_true (Ab d.1 (by decide));have M:[oS "",oS "ring",oS "unknown",X].all (fun y=>decide (y.length≤100000))=true:=by
   rw[Fw,Fw,Fw,Fw,R];rfl
  rw[M];rfl
 obtain⟨V',j⟩:=Aw3 H (a:=some (.tup [.p (.str ""),.p (.str "ring"),.p (.str "unknown"),.p (.str X)])) (c:=none) (Z:=Z) A B;rw[D,<-p] at j;have u:Et (K2 fs) (.f 0::.c 45::E1 [.c (Jw k)] l)=oS "ring-"++Cs (ofL [Jw k]) fs:=by
  have:=q [.c (Jw k)];rw[show Et (K2 fs) [.c (Jw k)]=ofL [Jw k] from rfl] at this;rw[<-this];apply Ld;unfold Et;rw[Dn,Dn,B4,Be];rfl
 rw[u] at j;have I:Ap6 0 1 Acq (L1 3 [.tup [.p (.str ""),.p (.str "ring"),.p (.str "unknown"),.p (.str X)]]) Z=some (.ret (.p (.str (oS "ring-"++Cs (ofL [Jw k]) fs))),Z):=by
  show((some [oS "",oS "ring",oS "unknown",X]).bind fun ys=>if okJ ys=true then(Acq (pT (some (.tup [.p (.str ""),.p (.str "ring"),.p (.str "unknown"),.p (.str X)])) none (Afg ys)) Z).map (fun r=>(r.1,r.2.2)) else none)=_;rw[qc,if_pos w,j];rfl
 unfold Zp Aoz Abg;rw[if_pos (by simp),if_pos (by simp),I];show(some ((PV.str _),Z.take Z.length))=_;rw[Eg]
theorem Aw1 {w:F7}{m:Hs->Option Ac}{c:Option Ac}{t:List Dx}(n:Ad5∈t):FC (cx w m c t) 4 100 Zp:=A1u n
end
section
seal SE SL SB SXT STg STs SI ON O1 O2 SP SA SBs SC OI FC FCC SXC SEC
noncomputable section
variable {w:F7}{mean:Hs->Option Ac}{v0:Option Ac}{tabs:List Dx}
noncomputable def Ai4:Sg:={names:=[((oS "ring"),.cell),((oS "piles"),.local),((oS "words"),.local),((oS "rows"),.cell),((oS "keys"),.local),((oS "cell"),.cell),((oS "parts"),.local),((oS "ranks"),.local),((oS "first"),.local),((oS "factor"),.local),((oS "fields"),.local),((oS "due"),.local),((oS "good"),.local),((oS "one"),.local),((oS "place"),.local),((oS "count"),.local),((oS "number"),.local),((oS "under"),.local),((oS "plus"),.local),((oS "more"),.local),((oS "side"),.local),((oS "told"),.local),((oS "left"),.local),((oS "sign"),.local),((oS "name"),.local),((oS "key"),.local),((oS "ends"),.cell),((oS "mail"),.local),((oS "sent"),.local),((oS "min"),.globalImplicit),((oS "len"),.globalImplicit),((oS "str"),.globalImplicit),((oS "int"),.globalImplicit),((oS "int_divmod"),.globalImplicit),((oS "Int2AP"),.globalImplicit),((oS "_platform"),.globalImplicit),((oS "_comparable_version"),.globalImplicit),((oS "range"),.globalImplicit),((oS "quotedata"),.globalImplicit)],vars:=[((oS "ring"),.own),((oS "piles"),.loc),((oS "words"),.loc),((oS "rows"),.own),((oS "keys"),.loc),((oS "cell"),.own),((oS "parts"),.loc),((oS "ranks"),.loc),((oS "first"),.loc),((oS "factor"),.loc),((oS "fields"),.loc),((oS "due"),.loc),((oS "good"),.loc),((oS "one"),.loc),((oS "place"),.loc),((oS "count"),.loc),((oS "number"),.loc),((oS "under"),.loc),((oS "plus"),.loc),((oS "more"),.loc),((oS "side"),.loc),((oS "told"),.loc),((oS "left"),.loc),((oS "sign"),.loc),((oS "name"),.loc),((oS "key"),.loc),((oS "ends"),.own),((oS "mail"),.loc),((oS "sent"),.loc)]}
noncomputable def Agw:Sg:={names:=[(".0",.local),("k",.local),("cell",.cell),("ends",.cell),("ring",.cell),("rows",.cell)],vars:=[("k",.loc),("cell",.cap),("ends",.cap),("ring",.cap),("rows",.cap)]}
noncomputable def Agx:Sg:={names:=[(".0",.local),("k",.local),("ring",.cell),("rows",.cell)],vars:=[("k",.loc),("ring",.cap),("rows",.cap)]}
noncomputable def tk1:SM:=(Cp (It (Ak (kE (.str "Rc")) (Ak (kE (.str "x")) (Ak (kE (.str "dev")) (Ak (kE (.str "a")) (Ak (kE (.str "alpha")) (Ak (kE (.str "b")) (Ak (kE (.str "beta")) (Ak (kE (.str "c")) (Ak (kE (.str "RC")) (Ak (kE (.str "rc")) (Ak (kE (.str "0")) (Ak (kE (.str "09")) (Ak (kE (.str "10")) (Ak (kE (.str "p")) (Ak (kE (.str "pl")) Bk)))))))))))))))) (Bc 6))
noncomputable def tk2:SM:=(Cp (It (Ak (kE (.int 0)) (Ak (kE (.int 0)) (Ak (kE (.int 10)) (Ak (kE (.int 20)) (Ak (kE (.int 20)) (Ak (kE (.int 30)) (Ak (kE (.int 30)) (Ak (kE (.int 40)) (Ak (kE (.int 50)) (Ak (kE (.int 50)) (Ak (kE (.int 100)) (Ak (kE (.int 100)) (Ak (kE (.int 100)) (Ak (kE (.int 200)) (Ak (kE (.int 200)) Bk)))))))))))))))) (Bc 7))
noncomputable def tk3:SM:=(Cp (It (Ak (Gq "list" (vE 0) (Ak (Cm Anb (Ak (vE 0) Bk)) Bk) Yq) (Ak (bE Fg (kE (.int 1)) (bE (i2 Jp) (bE Fg (bE (i2 Nu) (vE 5) (kE (.int 2))) (Cm Tw (Ak (vE 4) Bk))) (kE (.int 7)))) Bk))) (swT 2 (Sq [9,8])))
noncomputable def tk4:SM:=(Cp (It (Ak (K3 Bk) (Ak (Mr (Ak (kE (.int 0)) (Ak (kE (.str "ring")) Bk))) (Ak (kE (.bool true)) Bk)))) (swT 3 (Sq [12,11,10])))
noncomputable def Axv:SM:=(Cp (It (Ak (bE (i2 Us) (bE Fg (bE (i2 Jp) (vE 5) (kE (.int 6))) (bE Sa (kE (.int 3)) (vE 13))) (kE (.int 3))) (Ak (bE (i2 Us) (Cm Tw (Ak (bE D6 (vE 3) (vE 13)) Bk)) (kE (.int 1))) Bk))) (swT 2 (Sq [15,14])))
noncomputable def Axw:SM:=(H5 (Gq "list" (vE 10) (Ak (bE Fg (bE Fg (bE D6 (vE 6) (vE 14)) (kE (.str "."))) (Cm A7k (Ak (vE 15) Bk))) Bk) Ix))
noncomputable def Axx:SM:=(Cp (bE Fg (vE 11) (Mr (Ak (bE D6 (vE 7) (vE 14)) (Ak (iE (tB (bE eqF (bE D6 (vE 7) (vE 14)) (kE (.int 100)))) (Cm A06 (Ak (bE D6 (vE 6) (vE 14)) Bk)) (bE D6 (vE 6) (vE 14))) (Ak (kE (.int 100)) (Ak (vE 15) Bk)))))) (Bc 11))
noncomputable def Axy:SM:=(Cp (It (Ak (bE Fg (bE Sa (bE D6 (vE 1) (vE 13)) (vE 9)) (bE (i2 Jp) (vE 5) (vE 9))) (Ak (bE Sa (kE (.int 16)) (vE 9)) Bk))) (swT 2 (Sq [17,16])))
noncomputable def Aqg:SM:=(Cp (bE D6 (It (Ak (It (Ak (kE (.int 1)) (Ak (kE (.int 0)) (Ak (kE (.int 1)) Bk)))) (Ak (It (Ak (uE Ku (kE (.int 1))) (Ak (kE (.int 0)) (Ak (uE Ku (kE (.int 1))) Bk)))) (Ak (It (Ak (uE Ku (kE (.int 1))) (Ak (uE Ku (kE (.int 1))) (Ak (kE (.int 1)) Bk)))) (Ak (It (Ak (kE (.int 1)) (Ak (kE (.int 1)) (Ak (uE Ku (kE (.int 1))) Bk)))) Bk))))) (bE (i2 Jp) (bE Fg (bE Fg (vE 5) (Cm Tw (Ak (vE 4) Bk))) (vE 13)) (kE (.int 4)))) (T3 3 (Gi (Bc 18) (Gi (Bc 19) (Gi (Bc 20) Rl)))))
noncomputable def Aqh:SM:=(Cp (Cm (fcF Pn) (Ak (bE Fg (bE Sa (vE 18) (vE 16)) (vE 19)) (Ak (bE Sa (vE 20) (vE 17)) Bk))) (Bc 21))
noncomputable def Aqi:SM:=(Cp (iE (tB (bE eqF (vE 19) (kE (.int 0)))) (It (Ak (bE D6 (vE 21) (kE (.int 0))) (Ak (bE Sa (vE 20) (bE D6 (vE 21) (kE (.int 1)))) Bk))) (It (Ak (bE (i2 Us) (uE Ku (kE (.int 1))) (bE D6 (vE 21) (kE (.int 0)))) (Ak (bE (i2 Us) (bE (i2 Us) (vE 17) (kE (.int 1))) (bE Sa (vE 20) (bE D6 (vE 21) (kE (.int 1))))) Bk)))) (T3 2 (Gi (Akx (vE 1) (vE 13)) (Gi (Bc 22) Rl))))
noncomputable def Axz:SM:=(Cp (Z0 (vE 12) (Z0 (bE eqF (vE 22) (bE Fg (bE Sa (bE (i2 Us) (bE D6 (bE D6 (vE 2) (vE 13)) (uE Ku (kE (.int 1)))) (kE (.int 65))) (vE 9)) (bE (i2 Jp) (vE 5) (vE 9)))) (bE eqF (Cm (fcF O5) (Ak (uE Ku (bE D6 (vE 1) (vE 13))) Bk)) (slB (bE D6 (vE 2) (vE 13)) noP (atP (uE Ku (kE (.int 1)))))))) (Bc 12))
noncomputable def Ax0:SM:=(Cp (slB (bE D6 (vE 2) (vE 13)) noP (atP (uE Ku (kE (.int 1))))) (Akx (vE 2) (vE 13)))
noncomputable def Ak9:SM:=(B5 Axv (B5 Axw (B5 Axx (B5 Axy (B5 Aqg (B5 Aqh (B5 Aqi (B5 Axz (B5 Ax0 E5)))))))))
noncomputable def Bba:IM:=(Z3 (bE Fg (slE false (vE 0) (atP (vE 8)) noP) (slE false (vE 0) noP (atP (vE 8)))))
noncomputable def tk5:SM:=R8 Bba (Bc 13) Ak9
noncomputable def tk6:SM:=(Cp (bE D6 (It (Ak (kE (.str "/")) (Ak (kE (.str "\\")) (Ak (kE (.str ":")) (Ak (kE (.str ";")) (Ak (kE (.str "\"")) (Ak (kE (.str "(")) (Ak (kE (.str ")")) (Ak (kE (.str " ")) (Ak (kE (.str "--")) (Ak (kE (.str "-unknown-")) Bk))))))))))) (bE (i2 Jp) (bE Fg (vE 5) (Cm Tw (Ak (vE 4) Bk))) (kE (.int 10)))) (Bc 23))
noncomputable def tk7:SM:=(Cp (Cm (fcF Zp) (Ak (kE (.str "")) (Ak (kE (.str "ring")) (Ak (kE (.str "unknown")) (Ak (bE Fg (bE Fg (vE 23) (Gq "str" (vE 23) (Ak (vE 10) Bk) Ab9)) (vE 23)) Bk))))) (Bc 24))
noncomputable def tk8:SM:=(Cp (Cm (fcF Vn) (Ak (vE 24) Bk)) (Bc 25))
noncomputable def tk9:SM:=(Cp (Z0 (vE 12) (Z0 (bE eqF (vE 24) (bE Fg (kE (.str "ring-")) (Gq "str" (iE (tB (bE eqF (vE 23) (kE (.str " ")))) (kE (.str "_")) (kE (.str "-"))) (Ak (vE 10) Bk) Ab9))) (bE eqF (vE 25) (vE 11)))) (Bc 12))
noncomputable def Ba9:SM:=(Cp (It (Ak (kE (.str "\n")) (Ak (kE (.str "\r")) (Ak (kE (.str "\r\n")) Bk)))) (Bc 26))
noncomputable def A7v:SM:=(Cp (Rg [none,some 5,some 26,some 0,some 3] (Np (Ak (kE (.int 1)) (Ak (kE (.int 5)) Bk)) Q2) (Bc 0) T2 (Nt (bE Fg (bE Fg (iE (tB (bE inF (vE 0) (vE 3))) (kE (.str "")) (kE (.str "a"))) (bE D6 (vE 4) (vE 0))) (bE D6 (vE 2) (bE (i2 Jp) (bE Fg (vE 1) (vE 0)) (kE (.int 3))))))) (Bc 27))
noncomputable def A7w:SM:=(Cp (Gq "str" (kE (.str "")) (Ak (Rg [none,some 0,some 3] (Np (Ak (kE (.int 1)) (Ak (kE (.int 5)) Bk)) Q2) (Bc 0) T2 (Nt (bE Fg (bE Fg (iE (tB (bE inF (vE 0) (vE 1))) (kE (.str ".")) (kE (.str "a"))) (bE D6 (vE 2) (vE 0))) (kE (.str "\r\n"))))) Bk) Ab9) (Bc 28))
noncomputable def A7x:SM:=(Cp (Z0 (vE 12) (bE eqF (Cm (fcF Vz) (Ak (bE Fg (bE Fg (kE (.str ".b.")) (bE D6 (vE 26) (bE (i2 Jp) (Cm Tw (Ak (vE 4) Bk)) (kE (.int 3))))) (Gq "str" (kE (.str "")) (Ak (vE 27) Bk) Ab9)) Bk)) (bE Fg (kE (.str "..b.\r\n")) (vE 28)))) (Bc 12))
noncomputable def Axu:SM:=(Cp (bE Fg (bE D6 (vE 3) (vE 13)) (kE (.str "."))) (Akx (vE 3) (vE 13)))
noncomputable def Ac3:SM:=(B5 Axu E5)
noncomputable def A4e:IM:=(Z3 (vE 0))
noncomputable def A7y:SM:=R8 A4e (Bc 13) Ac3
noncomputable def A7z:SM:=(H5 (Gq "list" (vE 4) (Ak (iE (tB (vE 12)) (vE 25) (Mr Bk)) Bk) Ix))
noncomputable def tkB:SM:=(B5 tk1 (B5 tk2 (B5 tk3 (B5 tk4 (B5 tk5 (B5 tk6 (B5 tk7 (B5 tk8 (B5 tk9 (B5 Ba9 (B5 A7v (B5 A7w (B5 A7x (B5 A7y (B5 A7z E5)))))))))))))))
theorem Wk (hD:FC (cx w mean v0 tabs) 31 73 Pn)(n:FC (cx w mean v0 tabs) 30 100 Zp)(Y:FCC (cx w mean v0 tabs) 30 93 Vn)(X:FC (cx w mean v0 tabs) 30 117 Vz):FCC (cx w mean v0 tabs) 40 129 (Fq 6 29 tkB):=
 Wd (S:=Ai4) (ps:=[(oS "ring"),(oS "piles"),(oS "words"),(oS "rows"),(oS "keys"),(oS "cell")]) ⟨rfl,rfl,rfl,rfl,rfl,rfl,rfl,rfl,rfl,rfl,rfl,by decide+kernel,Bat (fun _ _ _ _ _ _=>rfl),H6 (by decide+kernel)⟩
 (B9 (.of (Bq (En (Ae Dk (Ae Dk (Ae Dk (Ae Dk (Ae Dk (Ae Dk (Ae Dk (Ae Dk (Ae Dk (Ae Dk (Ae Dk (Ae Dk (Ae Dk (Ae Dk (Ae Dk A5 rfl) rfl) rfl) rfl) rfl) rfl) rfl) rfl) rfl) rfl) rfl) rfl) rfl) rfl) rfl)) (tn 6 .loc rfl) rfl rfl (fun _=>rfl))) (B9 (.of (Bq (En (Ae A7 (Ae A7 (Ae A7 (Ae A7 (Ae A7 (Ae A7 (Ae A7 (Ae A7 (Ae A7 (Ae A7 (Ae A7 (Ae A7 (Ae A7 (Ae A7 (Ae A7 A5 rfl) rfl) rfl) rfl) rfl) rfl) rfl) rfl) rfl) rfl) rfl) rfl) rfl) rfl) rfl)) (tn 7 .loc rfl) rfl rfl (fun _=>rfl))) (B9 (.of (Ra [("factor",9),("first",8)] (En (Ae (G6 (T:="list") (id:="list.index") (vn 0 "ring" rfl) (Ae (Gz (Ae (vn 0 "ring" rfl) A5 rfl) At3 rfl rfl (mbD w mean v0 tabs Boot.«min») (Bg rfl)) A5 rfl) Aix Dv PySem.F.slot_list_index PySem.F.type_list_index (fun _=>rfl) (Bg rfl) (by decide) (F3 rfl) rfl) (Ae (Bh A7 (Bh (Bh (Bh (vn 5 "cell" rfl) A7 Nn) (Gz (Ae (vn 4 "keys" rfl) A5 rfl) Qq rfl rfl (mbD w mean v0 tabs Boot.«len») (Bg rfl)) D2) A7 H8) D2) A5 rfl) rfl)) (by decide) rfl rfl)) (B9 (.of (Ra [("good",12),("due",11),("fields",10)] (En (Ae (Ji A5) (Ae (M9 (Ae A7 (Ae Dk A5 rfl) rfl)) (Ae Aad A5 rfl) rfl) rfl)) (by decide) rfl rfl)) (B9 (.of (Yc (Aa0 (Bh (Pe (f:=false) (vn 0 "ring" rfl) (Ly (vn 8 "first" rfl)) Qc (fun o r=>by first|exact .inl rfl|(cases o<;>first|exact .inl rfl|exact .inr ⟨_,_,rfl⟩))) (Pe (f:=false) (vn 0 "ring" rfl) Qc (Ly (vn 8 "first" rfl)) (fun o r=>by first|exact .inl rfl|(cases o<;>first|exact .inl rfl|exact .inr ⟨_,_,rfl⟩))) D2)) (tn 13 .loc rfl) (Bf (Ra [("count",15),("place",14)] (En (Ae (Bh (Bh (Bh (vn 5 "cell" rfl) A7 H8) (Bh A7 (vn 13 "one" rfl) My) D2) A7 Kn) (Ae (Bh (Gz (Ae (Ec (vn 3 "rows" rfl) (vn 13 "one" rfl) (Dl _ _ (fun _ _ _=>rfl))) A5 rfl) Qq rfl rfl (mbD w mean v0 tabs Boot.«len») (Bg rfl)) A7 Kn) A5 rfl) rfl)) (by decide) rfl rfl) (Bf (Js (G6 (T:="list") (id:="list.append") (vn 10 "fields" rfl) (Ae (Bh (Bh (Ec (vn 6 "parts" rfl) (vn 14 "place" rfl) (Dl _ _ (fun _ _ _=>rfl))) Dk D2) (Lx (Ae (vn 15 "count" rfl) A5 rfl) A42 rfl rfl (mbD w mean v0 tabs Boot.«str») (Bg rfl)) D2) A5 rfl) Ln Dv PySem.F.slot_list_append PySem.F.type_list_append (fun _=>rfl) (Bg rfl) (by decide) (F3 rfl) rfl) rfl) (Bf (Bq (Bh (vn 11 "due" rfl) (M9 (Ae (Ec (vn 7 "ranks" rfl) (vn 14 "place" rfl) (Dl _ _ (fun _ _ _=>rfl))) (Ae (Qr (Gt (Ec (vn 7 "ranks" rfl) (vn 14 "place" rfl) (Dl _ _ (fun _ _ _=>rfl))) A7 (Lm (by decide)) rfl) (Lx (Ae (Ec (vn 6 "parts" rfl) (vn 14 "place" rfl) (Dl _ _ (fun _ _ _=>rfl))) A5 rfl) At2 rfl rfl (mbD w mean v0 tabs Boot.«int») (Bg rfl)) (Ec (vn 6 "parts" rfl) (vn 14 "place" rfl) (Dl _ _ (fun _ _ _=>rfl)))) (Ae A7 (Ae (vn 15 "count" rfl) A5 rfl) rfl) rfl) rfl)) D2) (tn 11 .loc rfl) rfl rfl (fun _=>rfl)) (Bf (Ra [("under",17),("number",16)] (En (Ae (Bh (Bh (Ec (vn 1 "piles" rfl) (vn 13 "one" rfl) (Dl _ _ (fun _ _ _=>rfl))) (vn 9 "factor" rfl) My) (Bh (vn 5 "cell" rfl) (vn 9 "factor" rfl) H8) D2) (Ae (Bh A7 (vn 9 "factor" rfl) My) A5 rfl) rfl)) (by decide) rfl rfl) (Bf (Bq (Ec (En (Ae (En (Ae A7 (Ae A7 (Ae A7 A5 rfl) rfl) rfl)) (Ae (En (Ae (Kc A7 I2) (Ae A7 (Ae (Kc A7 I2) A5 rfl) rfl) rfl)) (Ae (En (Ae (Kc A7 I2) (Ae (Kc A7 I2) (Ae A7 A5 rfl) rfl) rfl)) (Ae (En (Ae A7 (Ae A7 (Ae (Kc A7 I2) A5 rfl) rfl) rfl)) A5 rfl) rfl) rfl) rfl)) (Bh (Bh (Bh (vn 5 "cell" rfl) (Gz (Ae (vn 4 "keys" rfl) A5 rfl) Qq rfl rfl (mbD w mean v0 tabs Boot.«len») (Bg rfl)) D2) (vn 13 "one" rfl) D2) A7 H8) (Dl _ _ (fun _ _ _=>rfl))) (Ko (Ex (tn 18 .loc rfl) (Ex (tn 19 .loc rfl) (Ex (tn 20 .loc rfl) Na))) (fun _=>rfl)) rfl rfl (fun _=>rfl)) (Bf (Bq (Hg (Ae (Bh (Bh (vn 18 "plus" rfl) (vn 16 "number" rfl) My) (vn 19 "more" rfl) D2) (Ae (Bh (vn 20 "side" rfl) (vn 17 "under" rfl) My) A5 rfl) rfl) (Kt (FC.mono hD (by decide))) rfl rfl rfl rfl (Bg rfl)) (tn 21 .loc rfl) rfl rfl (fun _=>rfl)) (Bf (Bq (Qr (Gt (vn 19 "more" rfl) A7 (Lm (by decide)) rfl) (En (Ae (Ec (vn 21 "told" rfl) A7 (Dl _ _ (fun _ _ _=>rfl))) (Ae (Bh (vn 20 "side" rfl) (Ec (vn 21 "told" rfl) A7 (Dl _ _ (fun _ _ _=>rfl))) My) A5 rfl) rfl)) (En (Ae (Bh (Kc A7 I2) (Ec (vn 21 "told" rfl) A7 (Dl _ _ (fun _ _ _=>rfl))) Kn) (Ae (Bh (Bh (vn 17 "under" rfl) A7 Kn) (Bh (vn 20 "side" rfl) (Ec (vn 21 "told" rfl) A7 (Dl _ _ (fun _ _ _=>rfl))) My) Kn) A5 rfl) rfl))) (Ko (Ex (Aaf (vn 1 "piles" rfl) (vn 13 "one" rfl) (fun _ _ _=>rfl)) (Ex (tn 22 .loc rfl) Na)) (fun _=>rfl)) rfl rfl (fun _=>rfl)) (Bf (Bq (Aay (vn 12 "good" rfl) (Aay (Yb (vn 22 "left" rfl) (Bh (Bh (Bh (Ec (Ec (vn 2 "words" rfl) (vn 13 "one" rfl) (Dl _ _ (fun _ _ _=>rfl))) (Kc A7 I2) (Dl _ _ (fun _ _ _=>rfl))) A7 Kn) (vn 9 "factor" rfl) My) (Bh (vn 5 "cell" rfl) (vn 9 "factor" rfl) H8) D2) (Lm (by decide)) rfl) (Agr (Yb (Hg (Ae (Kc (Ec (vn 1 "piles" rfl) (vn 13 "one" rfl) (Dl _ _ (fun _ _ _=>rfl))) I2) A5 rfl) (Kt (FC.mono Yr (by decide))) rfl rfl rfl rfl (Bg rfl)) (Aem (Ec (vn 2 "words" rfl) (vn 13 "one" rfl) (Dl _ _ (fun _ _ _=>rfl))) Qc (Ly (Kc A7 I2))) (Lm (by decide)) rfl)))) (tn 12 .loc rfl) rfl rfl (fun _=>rfl)) (Bf (Bq (Aem (Ec (vn 2 "words" rfl) (vn 13 "one" rfl) (Dl _ _ (fun _ _ _=>rfl))) Qc (Ly (Kc A7 I2))) (Aaf (vn 2 "words" rfl) (vn 13 "one" rfl) (fun _ _ _=>rfl)) rfl rfl (fun _=>rfl)) Ce))))))))) (fun _ _=>rfl))) (B9 (.of (Bq (Ec (En (Ae Dk (Ae Dk (Ae Dk (Ae Dk (Ae Dk (Ae Dk (Ae Dk (Ae Dk (Ae Dk (Ae Dk A5 rfl) rfl) rfl) rfl) rfl) rfl) rfl) rfl) rfl) rfl)) (Bh (Bh (vn 5 "cell" rfl) (Gz (Ae (vn 4 "keys" rfl) A5 rfl) Qq rfl rfl (mbD w mean v0 tabs Boot.«len») (Bg rfl)) D2) A7 H8) (Dl _ _ (fun _ _ _=>rfl))) (tn 23 .loc rfl) rfl rfl (fun _=>rfl))) (B9 (.of (Bq (Hg (Ae Dk (Ae Dk (Ae Dk (Ae (Bh (Bh (vn 23 "sign" rfl) (G6 (T:="str") (id:="str.join") (vn 23 "sign" rfl) (Ae (vn 10 "fields" rfl) A5 rfl) Aaa Jq PySem.F.slot_str_join PySem.F.type_str_join (fun _=>rfl) (Bg rfl) (by decide) (F3 rfl) rfl) D2) (vn 23 "sign" rfl) D2) A5 rfl) rfl) rfl) rfl) (Kt (FC.mono n (by decide))) rfl rfl rfl rfl (Bg rfl)) (tn 24 .loc rfl) rfl rfl (fun _=>rfl))) (B9 (Aa1 (Q9 (Ae (vn 24 "name" rfl) A5 rfl) (Wf (FCC.mono Y (by decide))) rfl rfl rfl rfl (Bg rfl)) (tn 25 .loc rfl) rfl rfl (fun _=>rfl)) (B9 (.of (Bq (Aay (vn 12 "good" rfl) (Aay (Yb (vn 24 "name" rfl) (Bh Dk (G6 (T:="str") (id:="str.join") (Qr (Gt (vn 23 "sign" rfl) Dk (Lm (by decide)) rfl) Dk Dk) (Ae (vn 10 "fields" rfl) A5 rfl) Aaa Jq PySem.F.slot_str_join PySem.F.type_str_join (fun _=>rfl) (Bg rfl) (by decide) (F3 rfl) rfl) D2) (Lm (by decide)) rfl) (Agr (Yb (vn 25 "key" rfl) (vn 11 "due" rfl) (Lm (by decide)) rfl)))) (tn 12 .loc rfl) rfl rfl (fun _=>rfl))) (B9 (.of (Bq (En (Ae Dk (Ae Dk (Ae Dk A5 rfl) rfl) rfl)) (tn 26 .own rfl) rfl rfl (fun _=>rfl))) (B9 (.of (Azy (Td.mk (S':=Agw) (caps:=[none,some 5,some 26,some 0,some 3]) (Ox (Ae A7 (Ae A7 A5 rfl) rfl) Pc rfl rfl (mbD w mean v0 tabs Boot.«range») (Bg rfl)) (tn 0 .loc rfl) Aac (fun _ _=>Wg rfl (Bh (Bh (Qr (Gt (vn 0 "k" rfl) (vn 3 "ring" rfl) (Aoj (by decide)) rfl) Dk Dk) (Ec (vn 4 "rows" rfl) (vn 0 "k" rfl) (Dl _ _ (fun _ _ _=>rfl))) D2) (Ec (vn 2 "ends" rfl) (Bh (Bh (vn 1 "cell" rfl) (vn 0 "k" rfl) D2) A7 H8) (Dl _ _ (fun _ _ _=>rfl))) D2)) (fun _ _=>rfl) rfl (by decide+kernel)) (tn 27 .loc rfl) rfl)) (B9 (.of (Bq (G6 (T:="str") (id:="str.join") Dk (Ae (Aae (Td.mk (S':=Agx) (caps:=[none,some 0,some 3]) (Ox (Ae A7 (Ae A7 A5 rfl) rfl) Pc rfl rfl (mbD w mean v0 tabs Boot.«range») (Bg rfl)) (tn 0 .loc rfl) Aac (fun _ _=>Wg rfl (Bh (Bh (Qr (Gt (vn 0 "k" rfl) (vn 1 "ring" rfl) (Aoj (by decide)) rfl) Dk Dk) (Ec (vn 2 "rows" rfl) (vn 0 "k" rfl) (Dl _ _ (fun _ _ _=>rfl))) D2) Dk D2)) (fun _ _=>rfl) rfl (by decide+kernel))) A5 rfl) Aaa Jq PySem.F.slot_str_join PySem.F.type_str_join (fun _=>rfl) (Bg rfl) (by decide) (F3 rfl) rfl) (tn 28 .loc rfl) rfl rfl (fun _=>rfl))) (B9 (.of (Bq (Aay (vn 12 "good" rfl) (Agr (Yb (Hg (Ae (Bh (Bh Dk (Ec (vn 26 "ends" rfl) (Bh (Gz (Ae (vn 4 "keys" rfl) A5 rfl) Qq rfl rfl (mbD w mean v0 tabs Boot.«len») (Bg rfl)) A7 H8) (Dl _ _ (fun _ _ _=>rfl))) D2) (G6 (T:="str") (id:="str.join") Dk (Ae (vn 27 "mail" rfl) A5 rfl) Aaa Jq PySem.F.slot_str_join PySem.F.type_str_join (fun _=>rfl) (Bg rfl) (by decide) (F3 rfl) rfl) D2) A5 rfl) (Kt (FC.mono X (by decide))) rfl rfl rfl rfl (Bg rfl)) (Bh Dk (vn 28 "sent" rfl) D2) (Lm (by decide)) rfl))) (tn 12 .loc rfl) rfl rfl (fun _=>rfl))) (B9 (.of (Yc (Aa0 (vn 0 "ring" rfl)) (tn 13 .loc rfl) (Bf (Bq (Bh (Ec (vn 3 "rows" rfl) (vn 13 "one" rfl) (Dl _ _ (fun _ _ _=>rfl))) Dk D2) (Aaf (vn 3 "rows" rfl) (vn 13 "one" rfl) (fun _ _ _=>rfl)) rfl rfl (fun _=>rfl)) Ce) (fun _ _=>rfl))) (B9 (.of (Js (G6 (T:="list") (id:="list.append") (vn 4 "keys" rfl) (Ae (Qr (Aax (vn 12 "good" rfl) (fun _ _=>rfl)) (vn 25 "key" rfl) (M9 A5)) A5 rfl) Ln Dv PySem.F.slot_list_append PySem.F.type_list_append (fun _=>rfl) (Bg rfl) (by decide) (F3 rfl) rfl) rfl)) (.of Ce))))))))))))))))
noncomputable def Amb:Sg:={names:=[("numbers",.local),("words",.local),("cell",.local),("piles",.local),("letters",.local),("rows",.local),("keys",.local),("turn",.local),("rings",.local),("start",.local),("path",.local),("list",.globalImplicit),("range",.globalImplicit),("_law_arrow",.globalImplicit),("min",.globalImplicit),("_law_take",.globalImplicit),("len",.globalImplicit),("sorted",.globalImplicit)],vars:=[("numbers",.loc),("words",.loc),("cell",.loc),("piles",.loc),("letters",.loc),("rows",.loc),("keys",.loc),("turn",.loc),("rings",.loc),("start",.loc),("path",.loc)]}
noncomputable def an1:SM:=(Cp (It (Ak (Cm Zm (Ak (vE 0) Bk)) (Ak (Cm Zm (Ak (vE 1) Bk)) (Ak (bE Ar6 (Mr (Ak (kE (.str ".")) Bk)) (kE (.int 5))) (Ak (K3 Bk) Bk))))) (T3 4 (Gi (Bc 3) (Gi (Bc 4) (Gi (Bc 5) (Gi (Bc 6) Rl))))))
noncomputable def Auf:SM:=(Cp (K3 Bk) (Bc 8))
noncomputable def Agy:SM:=(Cp (K3 (Ak (vE 9) Bk)) (Bc 10))
noncomputable def Aeo:SM:=(H5 (Gq "list" (vE 10) (Ak (Cm (fcF (Fq 1 1 Hj)) (Ak (bE D6 (vE 4) (bE D6 (vE 10) (uE Ku (kE (.int 1))))) Bk)) Bk) Ix))
noncomputable def T9:SM:=(B5 Aeo E5)
noncomputable def Wm:BM:=(tB (bE niF (Cm (fcF (Fq 1 1 Hj)) (Ak (bE D6 (vE 4) (bE D6 (vE 10) (uE Ku (kE (.int 1))))) Bk)) (bE Fg (vE 10) (Mr (Ak (kE (.int 0)) Bk)))))
noncomputable def Aom:SM:=F8 Wm T9 100
noncomputable def Aa8:BM:=(Ads (tB (bE eqF (Cm (fcF (Fq 1 1 Hj)) (Ak (bE D6 (vE 4) (bE D6 (vE 10) (uE Ku (kE (.int 1))))) Bk)) (vE 9))) (Ads (tB (bE eqF (vE 9) (Cm Anb (Ak (vE 10) Bk)))) (Vo true)))
noncomputable def Aep:SM:=(H5 (Gq "list" (vE 8) (Ak (vE 10) Bk) Ix))
noncomputable def Aeq:SM:=(B5 Aep E5)
noncomputable def Aon:SM:=ifX Aa8 Aeq E5
noncomputable def Aag:SM:=(B5 Agy (B5 Aom (B5 Aon E5)))
noncomputable def Auh:IM:=(Np (Ak (kE (.int 1)) (Ak (kE (.int 5)) Bk)) Q2)
noncomputable def Aug:SM:=R8 Auh (Bc 9) Aag
noncomputable def Amf:BM:=(tB (bE eqF (vE 8) (Mr Bk)))
noncomputable def Az5:SM:=A5n
noncomputable def Az6:SM:=(B5 Az5 E5)
noncomputable def Aoo:SM:=ifX Amf Az6 E5
noncomputable def A3n:SM:=(H5 (Cm (fcF (Fq 6 29 tkB)) (Ak (bE D6 (vE 8) (bE (i2 Jp) (bE (i2 Nu) (vE 2) (bE (i2 Acr) (kE (.int 7)) (vE 7))) (Cm Tw (Ak (vE 8) Bk)))) (Ak (vE 3) (Ak (vE 4) (Ak (vE 5) (Ak (vE 6) (Ak (vE 2) Bk))))))))
noncomputable def Ai5:SM:=(B5 Auf (B5 Aug (B5 Aoo (B5 A3n E5))))
noncomputable def A9q:IM:=(Np (Ak (kE (.int 14)) Bk) Q2)
noncomputable def an2:SM:=R8 A9q (Bc 7) Ai5
noncomputable def an3:SM:=(O6 (Cm Aap (Ak (vE 6) Bk)))
noncomputable def anB:SM:=(B5 an1 (B5 an2 (B5 an3 E5)))
theorem Ai3 (hD:FC (cx w mean v0 tabs) 31 73 Pn)(n:FC (cx w mean v0 tabs) 30 100 Zp)(Y:FCC (cx w mean v0 tabs) 30 93 Vn)(X:FC (cx w mean v0 tabs) 30 117 Vz):FCC (cx w mean v0 tabs) 45 136 (Fq 3 11 anB):=
 Wd (S:=Amb) (ps:=[(oS "numbers"),(oS "words"),(oS "cell")]) ⟨rfl,rfl,rfl,rfl,rfl,rfl,rfl,rfl,rfl,rfl,rfl,by decide+kernel,Aj6 (fun _ _ _=>rfl),H6 (by decide+kernel)⟩
 (B9 (.of (Bq (En (Ae (Lx (Ae (vn 0 "numbers" rfl) A5 rfl) Aab rfl rfl (mbD w mean v0 tabs Boot.«list») (Bg rfl)) (Ae (Lx (Ae (vn 1 "words" rfl) A5 rfl) Aab rfl rfl (mbD w mean v0 tabs Boot.«list») (Bg rfl)) (Ae (Bh (M9 (Ae Dk A5 rfl)) A7 Al5) (Ae (Ji A5) A5 rfl) rfl) rfl) rfl)) (Ko (Ex (tn 3 .loc rfl) (Ex (tn 4 .loc rfl) (Ex (tn 5 .loc rfl) (Ex (tn 6 .loc rfl) Na)))) (fun _=>rfl)) rfl rfl (fun _=>rfl))) (B9 (Agu (Ox (Ae A7 A5 rfl) Pc rfl rfl (mbD w mean v0 tabs Boot.«range») (Bg rfl)) (tn 7 .loc rfl) (B9 (.of (Bq (Ji A5) (tn 8 .loc rfl) rfl rfl (fun _=>rfl))) (B9 (.of (Yc (Ox (Ae A7 (Ae A7 A5 rfl) rfl) Pc rfl rfl (mbD w mean v0 tabs Boot.«range») (Bg rfl)) (tn 9 .loc rfl) (Bf (Bq (Ji (Ae (vn 9 "start" rfl) A5 rfl)) (tn 10 .loc rfl) rfl rfl (fun _=>rfl)) (Bf (Aa2 100 (Gt (Hg (Ae (Ec (vn 4 "letters" rfl) (Ec (vn 10 "path" rfl) (Kc A7 I2) (Dl _ _ (fun _ _ _=>rfl))) (Dl _ _ (fun _ _ _=>rfl))) A5 rfl) (Kt (FC.mono Nc (by decide))) rfl rfl rfl rfl (Bg rfl)) (Bh (vn 10 "path" rfl) (M9 (Ae A7 A5 rfl)) D2) (Atz (by decide)) rfl) (Bf (Js (G6 (T:="list") (id:="list.append") (vn 10 "path" rfl) (Ae (Hg (Ae (Ec (vn 4 "letters" rfl) (Ec (vn 10 "path" rfl) (Kc A7 I2) (Dl _ _ (fun _ _ _=>rfl))) (Dl _ _ (fun _ _ _=>rfl))) A5 rfl) (Kt (FC.mono Nc (by decide))) rfl rfl rfl rfl (Bg rfl)) A5 rfl) Ln Dv PySem.F.slot_list_append PySem.F.type_list_append (fun _=>rfl) (Bg rfl) (by decide) (F3 rfl) rfl) rfl) Ce)) (Bf (So (Agq (Agp (Gt (Hg (Ae (Ec (vn 4 "letters" rfl) (Ec (vn 10 "path" rfl) (Kc A7 I2) (Dl _ _ (fun _ _ _=>rfl))) (Dl _ _ (fun _ _ _=>rfl))) A5 rfl) (Kt (FC.mono Nc (by decide))) rfl rfl rfl rfl (Bg rfl)) (vn 9 "start" rfl) (Lm (by decide)) rfl) (Agp (Gt (vn 9 "start" rfl) (Gz (Ae (vn 10 "path" rfl) A5 rfl) At3 rfl rfl (mbD w mean v0 tabs Boot.«min») (Bg rfl)) (Lm (by decide)) rfl) Al8))) (Bf (Js (G6 (T:="list") (id:="list.append") (vn 8 "rings" rfl) (Ae (vn 10 "path" rfl) A5 rfl) Ln Dv PySem.F.slot_list_append PySem.F.type_list_append (fun _=>rfl) (Bg rfl) (by decide) (F3 rfl) rfl) rfl) Ce) Ce) Ce))) (fun _ _=>rfl))) (B9 (.of (So (Gt (vn 8 "rings" rfl) (M9 A5) (Lm (by decide)) rfl) (Bf Auc Ce) Ce)) (B9 (Ai1 (Q9 (Ae (Ec (vn 8 "rings" rfl) (Bh (Bh (vn 2 "cell" rfl) (Bh A7 (vn 7 "turn" rfl) Agl) Nn) (Gz (Ae (vn 8 "rings" rfl) A5 rfl) Qq rfl rfl (mbD w mean v0 tabs Boot.«len») (Bg rfl)) H8) (Dl _ _ (fun _ _ _=>rfl))) (Ae (vn 3 "piles" rfl) (Ae (vn 4 "letters" rfl) (Ae (vn 5 "rows" rfl) (Ae (vn 6 "keys" rfl) (Ae (vn 2 "cell" rfl) A5 rfl) rfl) rfl) rfl) rfl) rfl) (Wf (FCC.mono (Wk hD n Y X) (by decide))) rfl rfl rfl rfl (Bg rfl)) rfl) (.of Ce))))) (fun _ _=>rfl)) (B9 (.of (Jo (Gz (Ae (vn 6 "keys" rfl) A5 rfl) (Aek (by decide)) rfl rfl (mbD w mean v0 tabs Boot.«sorted») (Bg rfl)))) (.of Ce))))
noncomputable def Adr:Sg:={names:=[("numbers",.local),("words",.local),("cell",.local),("piles",.local),("letters",.local),("rows",.local),("keys",.local),("order",.local),("gone",.local),("turn",.local),("at",.local),("path",.local),("cut",.local),("list",.globalImplicit),("range",.globalImplicit),("len",.globalImplicit),("_law_take",.globalImplicit),("_law_arrow",.globalImplicit),("sorted",.globalImplicit)],vars:=[("numbers",.loc),("words",.loc),("cell",.loc),("piles",.loc),("letters",.loc),("rows",.loc),("keys",.loc),("order",.loc),("gone",.loc),("turn",.loc),("at",.loc),("path",.loc),("cut",.loc)]}
noncomputable def wk1:SM:=(Cp (It (Ak (Cm Zm (Ak (vE 0) Bk)) (Ak (Cm Zm (Ak (vE 1) Bk)) (Ak (bE Ar6 (Mr (Ak (kE (.str ".")) Bk)) (kE (.int 5))) (Ak (K3 Bk) Bk))))) (T3 4 (Gi (Bc 3) (Gi (Bc 4) (Gi (Bc 5) (Gi (Bc 6) Rl))))))
noncomputable def wk2:SM:=(Cp (K3 (Ak (kE (.int 1)) (Ak (kE (.int 2)) (Ak (kE (.int 3)) (Ak (kE (.int 4)) Bk))))) (Bc 7))
noncomputable def wk3:SM:=(Cp (K3 (Ak (kE (.int 0)) Bk)) (Bc 8))
noncomputable def Ax8:SM:=(Cp (Gq "list" (vE 7) (Ak (bE (i2 Jp) (bE (i2 Nu) (vE 2) (bE (i2 Acr) (kE (.int 5)) (vE 9))) (Cm Tw (Ak (vE 7) Bk))) Bk) A66) (Bc 10))
noncomputable def Ax9:SM:=(Cp (K3 Bk) (Bc 11))
noncomputable def Xq:BM:=(tB (bE inF (vE 10) (vE 11)))
noncomputable def Af6:SM:=(Cp (Gq "list" (vE 11) (Ak (vE 10) Bk) Yq) (Bc 12))
noncomputable def Y8:SM:=(H5 (Cm (fcF (Fq 6 29 tkB)) (Ak (slE false (vE 11) (atP (vE 12)) noP) (Ak (vE 3) (Ak (vE 4) (Ak (vE 5) (Ak (vE 6) (Ak (vE 2) Bk))))))))
noncomputable def Y9:SM:=(Cp (slE true (vE 11) noP (atP (vE 12))) (Bc 11))
noncomputable def Af7:SM:=(B5 Af6 (B5 Y8 (B5 Y9 E5)))
noncomputable def Xp:SM:=ifX Xq Af7 E5
noncomputable def Aaq:SM:=(H5 (Gq "list" (vE 11) (Ak (vE 10) Bk) Ix))
noncomputable def Aid:SM:=(Cp (Cm (fcF (Fq 1 1 Hj)) (Ak (bE D6 (vE 4) (vE 10)) Bk)) (Bc 10))
noncomputable def Un:SM:=(B5 Xp (B5 Aaq (B5 Aid E5)))
noncomputable def Aic:BM:=(tB (bE niF (vE 10) (vE 8)))
noncomputable def A4g:SM:=F8 Aic Un 100
noncomputable def Aya:SM:=(H5 (Gq "list" (vE 8) (Ak (vE 11) Bk) Ahg))
noncomputable def Aqn:SM:=(B5 Ax8 (B5 Ax9 (B5 A4g (B5 Aya E5))))
noncomputable def Bbe:IM:=(Np (Ak (kE (.int 4)) Bk) Q2)
noncomputable def wk4:SM:=R8 Bbe (Bc 9) Aqn
noncomputable def wk5:SM:=(O6 (Cm Aap (Ak (vE 6) Bk)))
noncomputable def wkB:SM:=(B5 wk1 (B5 wk2 (B5 wk3 (B5 wk4 (B5 wk5 E5)))))
theorem Aa6 (hD:FC (cx w mean v0 tabs) 31 73 Pn)(n:FC (cx w mean v0 tabs) 30 100 Zp)(Y:FCC (cx w mean v0 tabs) 30 93 Vn)(X:FC (cx w mean v0 tabs) 30 117 Vz):FCC (cx w mean v0 tabs) 45 143 (Fq 3 13 wkB):=
 Wd (S:=Adr) (ps:=[(oS "numbers"),(oS "words"),(oS "cell")]) ⟨rfl,rfl,rfl,rfl,rfl,rfl,rfl,rfl,rfl,rfl,rfl,by decide+kernel,Aj6 (fun _ _ _=>rfl),H6 (by decide+kernel)⟩
 (B9 (.of (Bq (En (Ae (Lx (Ae (vn 0 "numbers" rfl) A5 rfl) Aab rfl rfl (mbD w mean v0 tabs Boot.«list») (Bg rfl)) (Ae (Lx (Ae (vn 1 "words" rfl) A5 rfl) Aab rfl rfl (mbD w mean v0 tabs Boot.«list») (Bg rfl)) (Ae (Bh (M9 (Ae Dk A5 rfl)) A7 Al5) (Ae (Ji A5) A5 rfl) rfl) rfl) rfl)) (Ko (Ex (tn 3 .loc rfl) (Ex (tn 4 .loc rfl) (Ex (tn 5 .loc rfl) (Ex (tn 6 .loc rfl) Na)))) (fun _=>rfl)) rfl rfl (fun _=>rfl))) (B9 (.of (Bq (Ji (Ae A7 (Ae A7 (Ae A7 (Ae A7 A5 rfl) rfl) rfl) rfl)) (tn 7 .loc rfl) rfl rfl (fun _=>rfl))) (B9 (.of (Bq (Ji (Ae A7 A5 rfl)) (tn 8 .loc rfl) rfl rfl (fun _=>rfl))) (B9 (Agu (Ox (Ae A7 A5 rfl) Pc rfl rfl (mbD w mean v0 tabs Boot.«range») (Bg rfl)) (tn 9 .loc rfl) (B9 (.of (Bq (G6 (T:="list") (id:="list.pop") (vn 7 "order" rfl) (Ae (Bh (Bh (vn 2 "cell" rfl) (Bh A7 (vn 9 "turn" rfl) Agl) Nn) (Gz (Ae (vn 7 "order" rfl) A5 rfl) Qq rfl rfl (mbD w mean v0 tabs Boot.«len») (Bg rfl)) H8) A5 rfl) A41 Dv PySem.F.slot_list_pop PySem.F.type_list_pop (fun _=>rfl) (Bg rfl) (by decide) (F3 rfl) rfl) (tn 10 .loc rfl) rfl rfl (fun _=>rfl))) (B9 (.of (Bq (Ji A5) (tn 11 .loc rfl) rfl rfl (fun _=>rfl))) (B9 (Aq7 100 (Gt (vn 10 "at" rfl) (vn 8 "gone" rfl) (Atz (by decide)) rfl) (B9 (At9 (Gt (vn 10 "at" rfl) (vn 11 "path" rfl) (Aoj (by decide)) rfl) (B9 (.of (Bq (G6 (T:="list") (id:="list.index") (vn 11 "path" rfl) (Ae (vn 10 "at" rfl) A5 rfl) Aix Dv PySem.F.slot_list_index PySem.F.type_list_index (fun _=>rfl) (Bg rfl) (by decide) (F3 rfl) rfl) (tn 12 .loc rfl) rfl rfl (fun _=>rfl))) (B9 (Ai1 (Q9 (Ae (Pe (f:=false) (vn 11 "path" rfl) (Ly (vn 12 "cut" rfl)) Qc (fun o r=>by first|exact .inl rfl|(cases o<;>first|exact .inl rfl|exact .inr ⟨_,_,rfl⟩))) (Ae (vn 3 "piles" rfl) (Ae (vn 4 "letters" rfl) (Ae (vn 5 "rows" rfl) (Ae (vn 6 "keys" rfl) (Ae (vn 2 "cell" rfl) A5 rfl) rfl) rfl) rfl) rfl) rfl) (Wf (FCC.mono (Wk hD n Y X) (by decide))) rfl rfl rfl rfl (Bg rfl)) rfl) (B9 (.of (Bq (Pe (f:=true) (vn 11 "path" rfl) Qc (Ly (vn 12 "cut" rfl)) (fun o r=>by first|exact .inl rfl|(cases o<;>first|exact .inl rfl|exact .inr ⟨_,_,rfl⟩))) (tn 11 .loc rfl) rfl rfl (fun _=>rfl))) (.of Ce)))) (.of Ce)) (B9 (.of (Js (G6 (T:="list") (id:="list.append") (vn 11 "path" rfl) (Ae (vn 10 "at" rfl) A5 rfl) Ln Dv PySem.F.slot_list_append PySem.F.type_list_append (fun _=>rfl) (Bg rfl) (by decide) (F3 rfl) rfl) rfl)) (B9 (.of (Bq (Hg (Ae (Ec (vn 4 "letters" rfl) (vn 10 "at" rfl) (Dl _ _ (fun _ _ _=>rfl))) A5 rfl) (Kt (FC.mono Nc (by decide))) rfl rfl rfl rfl (Bg rfl)) (tn 10 .loc rfl) rfl rfl (fun _=>rfl))) (.of Ce))))) (B9 (.of (Js (G6 (T:="list") (id:="list.extend") (vn 8 "gone" rfl) (Ae (vn 11 "path" rfl) A5 rfl) Aq5 Dv PySem.F.slot_list_extend PySem.F.type_list_extend (fun _=>rfl) (Bg rfl) (by decide) (F3 rfl) rfl) rfl)) (.of Ce))))) (fun _ _=>rfl)) (B9 (.of (Jo (Gz (Ae (vn 6 "keys" rfl) A5 rfl) (Aek (by decide)) rfl rfl (mbD w mean v0 tabs Boot.«sorted») (Bg rfl)))) (.of Ce))))))
noncomputable def Bas:Sg:={names:=[("script",.cell),("cells",.cell),("k",.local),("one",.local),("two",.local),("lift",.local),("numbers",.local),("words",.local),("number",.cell),("word",.local),("whole",.local),("told",.local),("range",.globalImplicit),("Int2AP",.globalImplicit),("len",.globalImplicit),("type",.globalImplicit),("bytes",.globalImplicit),("_law_any",.globalImplicit),("_law_walked",.globalImplicit)],vars:=[("script",.own),("cells",.own),("k",.loc),("one",.loc),("two",.loc),("lift",.loc),("numbers",.loc),("words",.loc),("number",.own),("word",.loc),("whole",.loc),("told",.loc)]}
noncomputable def A6h:Sg:={names:=[(".0",.local),("k",.cell),("sum",.globalImplicit),("enumerate",.globalImplicit),("cells",.cell),("script",.cell)],vars:=[("k",.own),("cells",.cap),("script",.cap)]}
noncomputable def A6i:Sg:={names:=[(".0",.local),("turn",.local),("x",.local),("k",.cell)],vars:=[("turn",.loc),("x",.loc),("k",.cap)]}
noncomputable def A6j:Sg:={names:=[(".0",.local),("k",.local),("number",.cell)],vars:=[("k",.loc),("number",.cap)]}
noncomputable def lw1:SM:=(Cp (Mr (Ak (kE (.int 386)) (Ak (kE (.int 1862)) (Ak (kE (.int 185)) (Ak (kE (.int 990)) (Ak (kE (.int 7451)) Bk)))))) (Bc 1))
noncomputable def lw2:SM:=(Cp (Rg [none,some 1,some 0] (Np (Ak (kE (.int 5)) Bk) Q2) (Bc 0) T2 (Nt (bE Fg (bE D6 (vE 1) (vE 0)) (Cm A18 (Ak (Rg [none,none,some 0] (Np (Ak (slE false (vE 2) noP (atP (kE (.int 60)))) Bk) Ajs) (T3 2 (Gi (Bc 0) (Gi (Bc 1) Rl))) (tB (bE eqF (bE (i2 Jp) (vE 0) (kE (.int 5))) (vE 2))) (Nt (bE (i2 Jp) (vE 1) (kE (.int 1000000))))) Bk))))) (Bc 1))
noncomputable def lw3:SM:=(Cp (It (Ak (bE Fg (kE (.int 1)) (bE (i2 Jp) (bE (i2 Nu) (bE D6 (vE 1) (kE (.int 4))) (kE (.int 6))) (kE (.int 4)))) (Ak (bE Fg (kE (.int 1)) (bE (i2 Jp) (bE (i2 Nu) (bE D6 (vE 1) (kE (.int 4))) (kE (.int 24))) (kE (.int 4)))) (Ak (bE Sa (kE (.int 5)) (bE (i2 Jp) (bE (i2 Nu) (bE D6 (vE 1) (kE (.int 4))) (kE (.int 96))) (kE (.int 3)))) Bk)))) (swT 3 (Sq [5,4,3])))
noncomputable def lw4:SM:=(Cp (It (Ak (K3 (Ak (kE (.int 0)) Bk)) (Ak (K3 Bk) Bk))) (swT 2 (Sq [7,6])))
noncomputable def Awd:SM:=(Cp (bE (i2 Jp) (bE D6 (vE 1) (bE (i2 Us) (vE 2) (kE (.int 1)))) (kE (.int 4096))) (Bc 8))
noncomputable def Awe:SM:=(H5 (Gq "list" (vE 6) (Ak (iE (tB (bE inF (vE 2) (It (Ak (vE 3) (Ak (vE 4) Bk))))) (bE Fg (bE Fg (bE Sa (vE 8) (kE (.int 16))) (vE 5)) (iE (tB (bE eqF (vE 2) (vE 3))) (vE 4) (vE 3))) (vE 8)) Bk) Ix))
noncomputable def Apw:SM:=(B5 Awd (B5 Awe E5))
noncomputable def Baw:IM:=(Np (Ak (kE (.int 1)) (Ak (kE (.int 5)) Bk)) Q2)
noncomputable def lw5:SM:=R8 Baw (Bc 2) Apw
noncomputable def Awh:SM:=(Cp (Cm (fcF O5) (Ak (vE 8) Bk)) (Bc 9))
noncomputable def Awi:SM:=(Cp (bE Fg (bE Sa (kE (.bytes ([65]:List UInt8).toArray)) (bE (i2 Us) (kE (.int 4)) (Cm Tw (Ak (vE 9) Bk)))) (vE 9)) (Bc 10))
noncomputable def Am9:BM:=(orB (tB (bE Apo (Cm Aql (Ak (vE 9) Bk)) (kE (.typ "bytes")))) (orB (tB (bE neF (vE 10) (Cm Abh (Ak (Rg [none,some 8] (Z3 (It (Ak (kE (.int 3)) (Ak (kE (.int 2)) (Ak (kE (.int 1)) (Ak (kE (.int 0)) Bk)))))) (Bc 0) T2 (Nt (bE Fg (kE (.int 65)) (bE (i2 Jp) (bE (i2 Nu) (vE 1) (bE (i2 Acr) (kE (.int 16)) (vE 0))) (kE (.int 16)))))) Bk)))) (orB (tB (bE eqF (slE false (vE 9) noP (atP (kE (.int 1)))) (kE (.bytes ([65]:List UInt8).toArray)))) (Vo false))))
noncomputable def A1h:SM:=(O6 (kE (.bool false)))
noncomputable def A1i:SM:=(B5 A1h E5)
noncomputable def Awj:SM:=ifX Am9 A1i E5
noncomputable def Ana:BM:=(tB (bE neF (Cm (fcF O5) (Ak (uE Ku (vE 8)) Bk)) (vE 9)))
noncomputable def A1j:SM:=(O6 (kE (.bool false)))
noncomputable def A1k:SM:=(B5 A1j E5)
noncomputable def Awk:SM:=ifX Ana A1k E5
noncomputable def Awl:SM:=(H5 (Gq "list" (vE 7) (Ak (vE 9) Bk) Ix))
noncomputable def Apx:SM:=(B5 Awh (B5 Awi (B5 Awj (B5 Awk (B5 Awl E5)))))
noncomputable def Bb9:IM:=(Z3 (vE 6))
noncomputable def lw6:SM:=R8 Bb9 (Bc 8) Apx
noncomputable def lw7:SM:=(Cp (Cm (fcF (Fq 3 11 anB)) (Ak (vE 6) (Ak (vE 7) (Ak (bE D6 (vE 1) (kE (.int 4))) Bk)))) (Bc 11))
noncomputable def lw8:SM:=(O6 (Z0 (bE niF (Mr Bk) (vE 11)) (bE eqF (vE 11) (Cm (fcF (Fq 3 13 wkB)) (Ak (vE 6) (Ak (vE 7) (Ak (bE D6 (vE 1) (kE (.int 4))) Bk)))))))
noncomputable def lwB:SM:=(B5 lw1 (B5 lw2 (B5 lw3 (B5 lw4 (B5 lw5 (B5 lw6 (B5 lw7 (B5 lw8 E5))))))))
theorem A6k (hD:FC (cx w mean v0 tabs) 31 73 Pn)(n:FC (cx w mean v0 tabs) 30 100 Zp)(Y:FCC (cx w mean v0 tabs) 30 93 Vn)(X:FC (cx w mean v0 tabs) 30 117 Vz):FCC (cx w mean v0 tabs) 50 148 (Fq 1 12 lwB):=
 Wd (S:=Bas) (ps:=[(oS "script")]) ⟨rfl,rfl,rfl,rfl,rfl,rfl,rfl,rfl,rfl,rfl,rfl,by decide+kernel,Afl (fun _=>rfl),H6 (by decide+kernel)⟩
 (B9 (.of (Bq (M9 (Ae A7 (Ae A7 (Ae A7 (Ae A7 (Ae A7 A5 rfl) rfl) rfl) rfl) rfl)) (tn 1 .own rfl) rfl rfl (fun _=>rfl))) (B9 (.of (Bq (Aae (Td.mk (S':=A6h) (caps:=[none,some 1,some 0]) (Ox (Ae A7 A5 rfl) Pc rfl rfl (mbD w mean v0 tabs Boot.«range») (Bg rfl)) (tn 0 .own rfl) Aac (fun _ _=>Wg rfl (Bh (Ec (vn 1 "cells" rfl) (vn 0 "k" rfl) (Dl _ _ (fun _ _ _=>rfl))) (Gz (Ae (Aae (Td.mk (S':=A6i) (caps:=[none,none,some 0]) (Ox (Ae (Pe (f:=false) (vn 2 "script" rfl) Qc (Ly A7) (fun o r=>by first|exact .inl rfl|(cases o<;>first|exact .inl rfl|exact .inr ⟨_,_,rfl⟩))) A5 rfl) Azm rfl rfl (mbD w mean v0 tabs Boot.«enumerate») (Bg rfl)) (Ko (Ex (tn 0 .loc rfl) (Ex (tn 1 .loc rfl) Na)) (fun _=>rfl)) (Azq (Gt (Bh (vn 0 "turn" rfl) A7 H8) (vn 2 "k" rfl) (Lm (by decide)) rfl)) (fun _ _=>Wg rfl (Bh (vn 1 "x" rfl) A7 H8)) (fun _ _=>rfl) rfl (by decide+kernel))) A5 rfl) A43 rfl rfl (mbD w mean v0 tabs Boot.«sum») (Bg rfl)) D2)) (fun _ _=>rfl) rfl (by decide+kernel))) (tn 1 .own rfl) rfl rfl (fun _=>rfl))) (B9 (.of (Ra [("lift",5),("two",4),("one",3)] (En (Ae (Bh A7 (Bh (Bh (Ec (vn 1 "cells" rfl) A7 (Dl _ _ (fun _ _ _=>rfl))) A7 Nn) A7 H8) D2) (Ae (Bh A7 (Bh (Bh (Ec (vn 1 "cells" rfl) A7 (Dl _ _ (fun _ _ _=>rfl))) A7 Nn) A7 H8) D2) (Ae (Bh A7 (Bh (Bh (Ec (vn 1 "cells" rfl) A7 (Dl _ _ (fun _ _ _=>rfl))) A7 Nn) A7 H8) My) A5 rfl) rfl) rfl)) (by decide) rfl rfl)) (B9 (.of (Ra [("words",7),("numbers",6)] (En (Ae (Ji (Ae A7 A5 rfl)) (Ae (Ji A5) A5 rfl) rfl)) (by decide) rfl rfl)) (B9 (.of (Yc (Ox (Ae A7 (Ae A7 A5 rfl) rfl) Pc rfl rfl (mbD w mean v0 tabs Boot.«range») (Bg rfl)) (tn 2 .loc rfl) (Bf (Bq (Bh (Ec (vn 1 "cells" rfl) (Bh (vn 2 "k" rfl) A7 Kn) (Dl _ _ (fun _ _ _=>rfl))) A7 H8) (tn 8 .own rfl) rfl rfl (fun _=>rfl)) (Bf (Js (G6 (T:="list") (id:="list.append") (vn 6 "numbers" rfl) (Ae (Qr (Gt (vn 2 "k" rfl) (En (Ae (vn 3 "one" rfl) (Ae (vn 4 "two" rfl) A5 rfl) rfl)) (Aoj (by decide)) rfl) (Bh (Bh (Bh (vn 8 "number" rfl) A7 My) (vn 5 "lift" rfl) D2) (Qr (Gt (vn 2 "k" rfl) (vn 3 "one" rfl) (Lm (by decide)) rfl) (vn 4 "two" rfl) (vn 3 "one" rfl)) D2) (vn 8 "number" rfl)) A5 rfl) Ln Dv PySem.F.slot_list_append PySem.F.type_list_append (fun _=>rfl) (Bg rfl) (by decide) (F3 rfl) rfl) rfl) Ce)) (fun _ _=>rfl))) (B9 (.of (Yc (Aa0 (vn 6 "numbers" rfl)) (tn 8 .own rfl) (Bf (Bq (Hg (Ae (vn 8 "number" rfl) A5 rfl) (Kt (FC.mono Yr (by decide))) rfl rfl rfl rfl (Bg rfl)) (tn 9 .loc rfl) rfl rfl (fun _=>rfl)) (Bf (Bq (Bh (Bh Tf (Bh A7 (Gz (Ae (vn 9 "word" rfl) A5 rfl) Qq rfl rfl (mbD w mean v0 tabs Boot.«len») (Bg rfl)) Kn) My) (vn 9 "word" rfl) D2) (tn 10 .loc rfl) rfl rfl (fun _=>rfl)) (Bf (So (Agq (At6 (Gt (Lx (Ae (vn 9 "word" rfl) A5 rfl) Azp rfl rfl (mbD w mean v0 tabs Boot.«type») (Bg rfl)) (A45 rfl rfl (mbD w mean v0 tabs Boot.«bytes»)) Azk rfl) (At6 (Gt (vn 10 "whole" rfl) (Lx (Ae (Aae (Td.mk (S':=A6j) (caps:=[none,some 8]) (Aa0 (En (Ae A7 (Ae A7 (Ae A7 (Ae A7 A5 rfl) rfl) rfl) rfl))) (tn 0 .loc rfl) Aac (fun _ _=>Wg rfl (Bh A7 (Bh (Bh (vn 1 "number" rfl) (Bh A7 (vn 0 "k" rfl) Agl) Nn) A7 H8) D2)) (fun _ _=>rfl) rfl (by decide+kernel))) A5 rfl) At0 rfl rfl (mbD w mean v0 tabs Boot.«bytes») (Bg rfl)) (Aty (by decide)) rfl) (At6 (Gt (Pe (f:=false) (vn 9 "word" rfl) Qc (Ly A7) (fun o r=>by first|exact .inl rfl|(cases o<;>first|exact .inl rfl|exact .inr ⟨_,_,rfl⟩))) Tf (Lm (by decide)) rfl) Al8)))) (Bf (Jo Aad) Ce) Ce) (Bf (So (Gt (Hg (Ae (Kc (vn 8 "number" rfl) I2) A5 rfl) (Kt (FC.mono Yr (by decide))) rfl rfl rfl rfl (Bg rfl)) (vn 9 "word" rfl) (Aty (by decide)) rfl) (Bf (Jo Aad) Ce) Ce) (Bf (Js (G6 (T:="list") (id:="list.append") (vn 7 "words" rfl) (Ae (vn 9 "word" rfl) A5 rfl) Ln Dv PySem.F.slot_list_append PySem.F.type_list_append (fun _=>rfl) (Bg rfl) (by decide) (F3 rfl) rfl) rfl) Ce))))) (fun _ _=>rfl))) (B9 (Aa1 (Q9 (Ae (vn 6 "numbers" rfl) (Ae (vn 7 "words" rfl) (Ae (Ec (vn 1 "cells" rfl) A7 (Dl _ _ (fun _ _ _=>rfl))) A5 rfl) rfl) rfl) (Wf (FCC.mono (Ai3 hD n Y X) (by decide))) rfl rfl rfl rfl (Bg rfl)) (tn 11 .loc rfl) rfl rfl (fun _=>rfl)) (B9 (Azx (Azr (Yb (M9 A5) (vn 11 "told" rfl) (Atz (by decide)) rfl) (At7 (Azs (vn 11 "told" rfl) (Q9 (Ae (vn 6 "numbers" rfl) (Ae (vn 7 "words" rfl) (Ae (Ec (vn 1 "cells" rfl) A7 (Dl _ _ (fun _ _ _=>rfl))) A5 rfl) rfl) rfl) (Wf (FCC.mono (Aa6 hD n Y X) (by decide))) rfl rfl rfl rfl (Bg rfl)) (Lm (by decide)) rfl)))) (.of Ce)))))))))
end
end
theorem Ake (w:Array Ay5)(x:Str):nsFind w x=(w.toList.find? (·.key.isStr x)).map (·.val):=by
 unfold nsFind findBy;rw[<-Array.find?_toList]
theorem Bay {K:Frag}{h:Heap}{mg:Str->Option Ac}(X:K.In h)(g:h.Ns Di mg){o:Obj}(N:K.lookup Di=some o):mg=fun x=>(nsIn K Di x).join:=by
 refine Aa fun C=>?_;refine exe3 g fun l w f u=>?_;obtain⟨e,hd,_,z⟩:=u;refine C ?_;have:=X _ _ N;rw[e] at this;have this:=Af this;subst this;funext x;rw[<-z x,Ake];obtain⟨c,d,a,sl⟩:=l;dsimp only at hd;subst hd;unfold nsIn;rw[N];dsimp only;cases w.toList.find? (·.key.isStr x) with
 |some q=>rfl
 |none=>dsimp only;split<;>rfl
noncomputable def Ahv (p:Addr×Obj):Bool:=p.1 != 2&&p.1 != 95&&p.1 != 54&&p.1 != 47&&(match p.2.cls with| .type n=>n != "list"|_=>true)
theorem Aze (P:As4):(hk.heap_1 P).tail.all Ahv=true:=by kernel_rfl
theorem A4u (P:As4):∃o,hk.heap_1 P=(H2,o)::(hk.heap_1 P).tail:=⟨_,rfl⟩
theorem Am8 {K:Frag}{a:Addr}{o:Obj}(h:K.lookup a=some o):(a,o)∈K:=by
 induction K with
 |nil=>cases h
 |cons p K J=>
  rw[Ff] at h;cases e:a==p.1 with
  |true=>rw[e] at h;cases h;rw[Ew e];exact .head _
  |false=>rw[e] at h;exact .tail _ (J h)
noncomputable abbrev Xj:List Dx:=[Ut,Uu,Ad5]
noncomputable abbrev cxx (w:F7)(m:Hs->Option Ac)(c:Option Ac):Cx:=cx w m c Xj
theorem Avz {g:Heap}{vs:List Ac}{ws:List Int}(h:IntsAre vs ws):PRs g (ws.map PV.int) vs:=by
 induction h with
 |nil=>exact .nil
 |cons=>exact .cons (.int _ _) (by assumption)
theorem A4v (P:As4):∃o,(hk.heap_1 P).tail.lookup Di=some o:=⟨_,rfl⟩
theorem A9e (P:As4):(nsIn (hk.heap_1 P).tail Di (oS "law")).join=some (.ref 148):=rfl
theorem Bby (P:As4):codeHdIn (hk.heap_1 P).tail 58 54=true:=by kernel_rfl
theorem Bbz (P:As4):codeHdIn (hk.heap_1 P).tail 51 47=true:=by kernel_rfl
theorem Bb0 (P:As4):codeHdIn (hk.heap_1 P).tail 99 95=true:=by kernel_rfl
theorem Awz {a:Addr}{o:Obj}(h:Ahv (a,o)=true):a≠2∧a≠95∧a≠54∧a≠47∧o.cls≠.type "list":=by
 unfold Ahv at h;simp only[A0,bne_iff_ne] at h;refine Aa fun P=>?_;obtain⟨⟨⟨⟨U,O⟩,C⟩,G⟩,R⟩:=h;refine P ?_;refine⟨U,O,C,G,fun e=>?_⟩;rw[e] at R;simp at R
set_option tactic.hygienic true in
theorem Bap (spec:FM)(hlaw:∀w mean v0,FCC (cxx w mean v0) 50 148 spec)
  (hpure:∀(ws:List Int)(o:Obj),ws.length<=63->spec [.mu 0] [some (.wl (ws.map .int) o)]=some (.bool true,[some (.wl (ws.map .int) o)])):PySem.Challenge.rw_wv0018_02.Holds:=by
 refine hd2 ?_;intro w s0 s1z mg mb G Y fa o pm cd doc dV kV ho hd hcd hD hmg hg args vals as hpre hlay hrd hwl hlo;have KX:=km_in_of Y;have hT8:=km_tabs_of Y;have X:=(Ground.X G).1;refine Ground.open G ?_;intro T Bv D TE TW
 wrow_args hpre hlay hrd hwl hlo
 rename_i ws hsh0 hlay0 hL1 hr1 hl2 ad4 ad3 l vs ad0 hL ra w1 r0 hI hr hcond1 hcond2;clear hd hcd hD Y G Bv D TE TW X r0 w1 ra hr hl2 hr1 hL1 hlay0 hsh0;obtain⟨o2,hK⟩:=A4u w.params;have hmem:∀a o,(hk.heap_1 w.params).tail.lookup a=some o→a≠2∧a≠95∧a≠54∧a≠47∧o.cls≠.type "list":=fun a o e=>Awz ((Bd.mp (Aze w.params)) _ (Am8 e));have KT:Frag.In (hk.heap_1 w.params).tail s1z.heap:=fun a o e=>KX a o (by
  rw[hK,Ff];have:(a==H2)=false:=beq_eq_false_iff_ne.mpr (show a≠H2 from(hmem a o e).1);rw[this];exact e)
 have h2:s1z.heap.get? H2=some o2:=KX _ _ (by rw[hK,Ff];simp);obtain⟨om,hom⟩:=A4v w.params;have hmgE:=Bay KT T.g hom;have hmg':mg (oS "law")=some (.ref fa):=hmg;have hfa:fa=148:=by
  rw[hmgE] at hmg';have:=(A9e w.params).symm.trans hmg';cases this;rfl
 clear hmg hmg';subst hfa;obtain⟨lo,hlo1,hlo2,n,hlo3⟩:=hL
 let g:Heap:=sub s1z.heap fun b=>b != 2&&b != l&&b != 95&&b != 54&&b != 47
 have gget:∀b o,s1z.heap.get? b=some o->b≠2->b≠l->b≠95->b≠54->b≠47->g.get? b=some o:=fun b o e a1 a2 a3 a4 a5=>by
  show(sub s1z.heap _).get? b=_;rw[Cw,if_pos (by simp[a1,a2,a3,a4,a5])];exact e
 have gnone:∀b,(b=2\/b=l\/b=95\/b=54\/b=47)->g.get? b=none:=fun b hb=>by
  show(sub s1z.heap _).get? b=_;rw[Cw,if_neg (by rcases hb with h|h|h|h|h<;>simp[h])]
 have up:Up g s1z.heap:=fun b o e=>by
  have e:(sub s1z.heap _).get? b=some o:=e;rw[Cw] at e;replace e:=(Am e).2;exact e
 have t95:=hT8 95 (by simp);have t54:=hT8 54 (by simp);have t47:=hT8 47 (by simp);have tne:∀b o,s1z.heap.get? b=some o->(∀vs,o.data≠.fields vs)->b≠95/\b≠54/\b≠47:=fun b o e hf=>by
  refine⟨?_,?_,?_⟩<;>(rintro rfl;first|(rw[t95] at e;cases e;exact hf _ rfl)|(rw[t54] at e;cases e;exact hf _ rfl)|(rw[t47] at e;cases e;exact hf _ rfl))
 have lne:∀b o,s1z.heap.get? b=some o->(∀its n,o.data≠.seq its n)->b≠l:=fun b o e hf=>by rintro rfl;rw[hlo1] at e;cases e;exact hf _ _ hlo3
 have nsg:∀b m,b≠2->s1z.heap.Ns b m->g.Ns b m:=fun b m hb hn=>by
  refine Aa fun zk7=>?_;refine exe3 hn fun o es ep zw15=>?_;obtain⟨e,hd,r⟩:=zw15;obtain⟨q1,q2,q3⟩:=tne b o e (fun vs q=>by rw[hd] at q;cases q);exact zk7 ⟨o,es,ep,gget b o e hb (lne b o e fun its n q=>by rw[hd] at q;cases q) q1 q2 q3,hd,r⟩
 have KG:Frag.In (hk.heap_1 w.params).tail g:=fun a o e=>by
  obtain⟨q1,q2,q3,q4,q5⟩:=hmem a o e;exact gget a o (KT a o e) q1 (by rintro rfl;rw[KT _ _ e] at hlo1;cases hlo1;exact q5 hlo2) q2 q3 q4
 have hmbE:mb=(cxx w (R0 s0.heap) (mb (oS "__name__"))).mb:=by
  funext x;show _=if x=oS "__name__" then mb (oS "__name__") else Aij x;by_cases hx:x=oS "__name__"
  ·rw[if_pos hx,hx]
  ·rw[if_neg hx];exact T.builtins x hx
 have top:Wj (cxx w (R0 s0.heap) (mb (oS "__name__"))) g:=by
  refine⟨KG,⟨?_,?_,?_⟩,?_⟩
  ·have:=nsg _ _ (by decide) T.g;rw[hmgE] at this;exact this
  ·have:=nsg _ _ (by decide) T.b;rw[hmbE] at this;exact this
  ·refine Aa fun zk9=>?_;refine exe2 T.bmain fun bm ob zw24=>?_;obtain⟨b1,b2,zz27⟩:=zw24;have b3:=zz27.1;have b6:=zz27.2.2.2;refine zk9 ?_;rw[hmgE] at b1;obtain⟨q1,q2,q3⟩:=tne bm ob b3 (fun vs q=>by rw[b6] at q;cases q);refine exi2 bm ob ⟨b1,b2,gget bm ob b3 (fun e=>?_) (lne bm ob b3 fun its n q=>by rw[b6] at q;cases q) q1 q2 q3,zz27.2.1,zz27.2.2.1,b6⟩;obtain⟨mc,⟨oc,_,_,e1,e2,_⟩,_⟩:=T.nolimit;rw[e,show(2:Addr)=H2 from rfl,e1] at b3;cases b3;rw[b6] at e2;cases e2
  ·intro q hq;have hq:q∈[Ut,Uu,Ad5]:=hq;simp only[Av,Le,or_false] at hq;rcases hq with rfl|rfl|rfl
   ·exact A8r KG (Bby _)
   ·exact A8r KG (Bbz _)
   ·exact A8r KG (Bb0 _)
 have hl2:l≠2:=fun e=>by rw[e,show(2:Addr)=H2 from rfl,h2] at hlo1;cases hlo1;obtain⟨mc,⟨oc,_,_,e1,e2,_⟩,_⟩:=T.nolimit;rw[h2] at e1;cases e1;rw[e2] at hlo3;cases hlo3
 have F:FSt (cxx w (R0 s0.heap) (mb (oS "__name__"))) g s1z [l] [some (.wl (ws.map .int) lo)] [(H2,.st o2)]:=by
  refine⟨up,AllBare.of_eq hg,rfl,fun i o a h1 h3=>?_,fun i a h1 h3=>?_,by simp,fun a ha=>?_,fun q hq=>?_,by simp,top,fun q hq=>?_,(show([54,47,95]:List Addr).Nodup by decide)⟩
  ·cases i with
   |zero=>
    cases h1;cases h3;exact⟨gnone _ (by simp),.wl ⟨hlo1,hlo2,n,hlo3⟩ (Avz hI)⟩
   |succ i=>simp at h1
  ·cases i with
   |zero=>cases h1
   |succ i=>simp at h1
  ·rw[A6.mp ha];exact⟨_,hlo1⟩
  ·rw[A6.mp hq];refine Aa fun zk12=>?_;obtain⟨mc,zz18⟩:=T.nolimit;exact zk12 ⟨⟨rfl,h2,mc,zz18.1,zz18.2⟩,gnone _ (.inl rfl),fun h=>hl2 (A6.mp h).symm⟩
  ·have hq:q∈[Ut,Uu,Ad5]:=hq;have tok:∀q,Sp q #[] g:=fun q=>⟨trivial,fun pos cv e=>by cases e⟩
   simp only[Av,Le,or_false] at hq;rcases hq with rfl|rfl|rfl
   ·exact⟨gnone _ (by simp[Ut]), #[],t54,tok _⟩
   ·exact⟨gnone _ (by simp[Uu]), #[],t47,tok _⟩
   ·exact⟨gnone _ (by simp[Ad5]), #[],t95,tok _⟩
 have hA:AOk Aqw 50 ([((H2:Addr),Hd.st o2)].map kd):=⟨rfl,by decide,by decide,⟨[],rfl,fun e he=>by cases he⟩,.head _⟩;refine Xr (hlaw w _ _ Aqw g s1z [l] _ _ [.mu 0] [.ref l] (.bool true) _ _ hA F (.cons (.mu rfl) .nil) (hpure ws lo (by lia)) fun g' s' v ev F' pr=>?_);cases pr;have k2:s'.heap.get? H2=some o2:=((F'.fr _ (.head _)).1).2.1;have kl:s'.heap.get? l=some lo:=by
  have:=F'.mu 0 _ l rfl rfl;cases this.2 with
  |wl t r=>exact t.1
 have tb:∀q∈Xj,∃ps,s'.heap.get? q.tab=some (Qb ps):=fun q hq=>(F'.tab q hq).elim fun _ k=>k.elim fun ps k=>⟨ps,k.1⟩;have old:∀b o,s1z.heap.get? b=some o->(s'.heap.get? b=some o\/∃q∈Xj,b=q.tab):=fun b o e=>by
  by_cases a1:b=2
  ·left;rw[a1] at e |-;rw[show(2:Addr)=H2 from rfl,h2] at e;cases e;exact k2
  by_cases a2:b=l
  ·left;rw[a2] at e |-;rw[hlo1] at e;cases e;exact kl
  by_cases a3:b=95
  ·exact .inr ⟨Ad5,by simp,a3⟩
  by_cases a4:b=54
  ·exact .inr ⟨Ut,by simp,a4⟩
  by_cases a5:b=47
  ·exact .inr ⟨Uu,by simp,a5⟩
  exact .inl (F'.keep _ _ (ev.up _ _ (gget b o e a1 a2 a3 a4 a5)))
 have code:∀q∈Xj,isCodeTable s1z.heap q.tab:=fun q hq=>by
  refine exe8 ((top.code q hq).keeps up) fun oc vs' _ _ _ _ _ _ zw29=>?_;obtain⟨_,zz13⟩:=zw29;exact(⟨_,oc,vs',zz13.1,zz13.2.1,zz13.2.2.1,zz13.2.2.2.1⟩)
 have empty:∀q∈Xj,s1z.heap.get? q.tab=some (Qb #[]):=fun q hq=>by obtain⟨_,ps,e,_⟩:=F.tab q hq;exact hT8 _ (by
  have hq:q∈[Ut,Uu,Ad5]:=hq;simp only[Av,Le,or_false] at hq;rcases hq with rfl|rfl|rfl<;>simp[Ut,Uu,Ad5])
 refine⟨.inl ⟨_,.bool true,[],rfl,fun _=>rfl,.bool true,by(first|kernel_rfl|with_unfolding_all rfl|decide+kernel|w_fin|trace_state),fun _=>⟨.nil,fun a h=>by cases h⟩⟩,⟨fun b o e=>?_,fun b o e=>?_⟩,ev.os,F'.bare⟩
 ·rcases old b o e with h|⟨q,hq,rfl⟩
  ·exact .inl h
  ·obtain⟨ps,e'⟩:=tb q hq;rw[empty q hq] at e;cases e;exact .inr (.inl ⟨code q hq,rfl, #[],ps,rfl,by rw[e'];simp⟩)
 ·rcases old b o e with h|⟨q,hq,rfl⟩
  ·exact⟨o,h⟩
  ·obtain⟨ps,e'⟩:=tb q hq;exact⟨_,e'⟩
noncomputable def Aoi:Prop:=∀(ws:List Int) (o:Obj),ws.length<=63->Fq 1 12 lwB [.mu 0] [some (.wl (ws.map .int) o)]=some (.bool true,[some (.wl (ws.map .int) o)])
theorem A1a (h:Aoi):PySem.Challenge.rw_wv0018_02.Holds:=
 Bap (Fq 1 12 lwB) (fun w m c=>A6k (A03 (An ..) (A4 _ (An ..)))
  (FC.mono (Aw1 (A4 _ (A4 _ (An ..)))) (by decide)) (FCC.mono Au2 (by decide)) (FC.mono Aw4 (by decide))) h
noncomputable def Qw (w:List Nat):Prop:=∀c∈w,c≠13/\c≠10
theorem Yx:∀(w:List Nat) (n:Nat) (r:List Nat),Qw w->G3 (n+w.length) (w++r)=w++G3 n r
 |[],n,r,_=>rfl
 |c::w,n,r,h=>by
  obtain⟨U,O⟩:=h c (An ..);have J:=Yx w n r fun d hd=>h d (A4 _ hd);show G3 (n+w.length+1) (c::(w++r))=c::(w++G3 n r);conv=>lhs;rw[Qj]
  rw[if_neg U,if_neg O,J]
theorem A1p (n:Nat)(r:List Nat):G3 (n+1) (10::r)=13::10::G3 n r:=by
 conv=>lhs;rw[Qj]
 simp
theorem Art (n:Nat)(r:List Nat):G3 (n+1) (13::10::r)=13::10::G3 n r:=by
 conv=>lhs;rw[Qj]
 simp
set_option tactic.hygienic true in
theorem A1o (n:Nat)(r:List Nat)(h:r.head?≠some 10):G3 (n+1) (13::r)=13::10::G3 n r:=by
 conv=>lhs;rw[Qj]
 rw[if_pos rfl];cases r with
 |nil=>rfl
 |cons c r=>
  have:c≠10:=fun e=>h (by rw[e];rfl);split
  ·rename_i Y e;cases e;exact absurd rfl this
  ·rfl
theorem Abt:∀(w:List Nat) (r:List Nat),Qw w->Oh false (w++r)=w++Oh false r
 |[],r,_=>rfl
 |c::w,r,h=>by
  have J:=Abt w r fun d hd=>h d (A4 _ hd);show Oh false (c::(w++r))=c::(w++Oh false r);conv=>lhs;rw[Vp]
  rw[if_neg (by simp),show(c==10)=false by simpa using((h c (An ..)).2),J]
theorem Ao5 (w r:List Nat)(h:Qw w):Oh true (46::(w++r))=46::46::(w++Oh false r):=by
 conv=>lhs;rw[Vp]
 rw[if_pos (by decide),show((46:Nat)==10)=false from rfl,Abt w r h]
theorem Arf (c:Nat)(w r:List Nat)(L:c≠46/\c≠10)(h:Qw w):Oh true (c::(w++r))=c::(w++Oh false r):=by
 conv=>lhs;rw[Vp]
 rw[if_neg (by simpa using L.1),show(c==10)=false by simpa using L.2,Abt w r h]
theorem Ahc (r:List Nat):Oh false (13::10::r)=13::10::Oh true r:=by
 conv=>lhs;rw[Vp]
 rw[if_neg (by decide),show((13:Nat)==10)=false from rfl];conv=>lhs;rhs;rw[Vp]
 rw[if_neg (by decide)];rfl
noncomputable def Mj:Nat->List Nat
 |0=>[10]|1=>[13]|_=>[13,10]
noncomputable def Mt (l:List (Bool×Nat×Nat)):List Nat:=l.flatMap fun q=>(if q.1=true then[] else[97])++(Bb (q.2.1+1) 46++Mj q.2.2)
noncomputable def Af2 (l:List (Bool×Nat×Nat)):List Nat:=l.flatMap fun q=>(if q.1=true then[46] else[97])++(Bb (q.2.1+1) 46++[13,10])
theorem Ahd (n:Nat):Qw (Bb n 46):=fun c L=>by rw[(List.mem_replicate.mp L).2];decide
theorem Akd (e n:Nat)(r:List Nat)(h:r.head?≠some 10):G3 (n+1) (Mj e++r)=13::10::G3 n r:=by
 match e with
 |0=>exact A1p n r
 |1=>exact A1o n r h
 |e+2=>exact Art n r
theorem Afq:∀l:List (Bool×Nat×Nat),(Mt l).head?≠some 10
 |[]=>by simp[Mt]
 |q::l=>by
  show(((if q.1=true then[] else[97])++(Bb (q.2.1+1) 46++Mj q.2.2))++Mt l).head?≠_;cases q.1<;>simp[Je]
theorem Afr:∀(l:List (Bool×Nat×Nat)) (n:Nat),(Mt l).length<=n->Oh true (G3 n (Mt l))=Af2 l
 |[],n,_=>by
  show Oh true (G3 n [])=[];cases n<;>rfl
 |(b,d,e)::l,n,K=>by
  have N:(Mt ((b,d,e)::l))=((if b=true then[] else[97])++Bb (d+1) 46)++(Mj e++Mt l):=by
   show((if b=true then[] else[97])++(Bb (d+1) 46++Mj e))++Mt l=_;simp[Az]
  have M:Af2 ((b,d,e)::l)=((if b=true then[46] else[97])++(Bb (d+1) 46++[13,10]))++Af2 l:=rfl;have B:Qw ((if b=true then[] else[97])++Bb (d+1) 46):=fun c L=>by
   rcases B6.mp L with L|L
   ·cases b
    ·have:c=97:=by simpa using L
     rw[this];decide
    ·cases L
   ·exact Ahd _ c L
  have p:1<=(Mj e).length:=by match e with|0=>exact At _|1=>exact At _|e+2=>exact(by decide:1<=2)
  rw[N] at K |-
  rw[As,As (as:=Mj e)] at K;obtain⟨m,rfl⟩:∃m,n=(m+1)+((if b=true then[] else[97])++Bb (d+1) 46:List Nat).length:=A9w (Ab (Ar (Ab p (Bl _ _)) _) K);rw[Yx _ _ _ B,Akd e m _ (Afq l),M];have i:=(Afr l) m (A93 p K);cases b with
  |true=>
   show Oh true (46::(Bb d 46++(13::10::G3 m (Mt l))))=_;rw[Ao5 _ _ (Ahd d),Ahc,i];simp[Je]
  |false=>
   show Oh true (97::(Bb (d+1) 46++(13::10::G3 m (Mt l))))=_;rw[Arf 97 _ _ (by decide) (Ahd _),Ahc,i];simp[Je]
theorem Xm {P:Nat->Bool}:∀(w r:List Nat),(∀c∈w,P c=true)->(∀c,r.head?=some c->P c=false)->(w++r).takeWhile P=w/\(w++r).dropWhile P=r
 |[],[],_,_=>⟨rfl,rfl⟩
 |[],c::r,_,h=>by
  have:=h c rfl;constructor
  ·rw[qm,Air (by rw[this];decide)]
  ·rw[qm,List.dropWhile_cons_of_neg (by rw[this];decide)]
 |c::w,r,B,h=>by
  obtain⟨U,O⟩:=Xm w r (fun d hd=>B d (A4 _ hd)) h;have:=B c (An ..);constructor
  ·rw[qo,Ais this,U]
  ·rw[qo,List.dropWhile_cons_of_pos this,O]
theorem Rr (f:Nat)(w r:List Nat)(s:Nat)(B:∀c∈w,tk c=false)(l:tk s=true)(hd:dg s=false):Ez (f+1) (w++s::r)=w::[s]::Ez f r:=by
 obtain⟨U,O⟩:=Xm (P:=fun c=> !tk c) w (s::r) (fun c L=>by simp[B c L]) (fun c L=>by cases L;simp[l]);conv=>lhs;rw[N0]
 rw[O,U];simp[hd]
theorem Y0 (f:Nat)(w d r:List Nat)(B:∀c∈w,tk c=false)(hd:∀c∈d,tk c=true/\dg c=true)(K:d≠[])(j:∀c,r.head?=some c->dg c=false):Ez (f+1) (w++(d++r))=w::d::Ez f r:=by
 cases d with
 |nil=>exact absurd rfl K
 |cons a d=>
  obtain⟨U,O⟩:=Xm (P:=fun c=> !tk c) w ((a::d)++r) (fun c L=>by simp[B c L]) (fun c L=>by cases L;simp[(hd a (An ..)).1]);obtain⟨C,G⟩:=Xm (P:=dg) (a::d) r (fun c L=>(hd c L).2) j;conv=>lhs;rw[N0]
  rw[O,U];rw[qo] at C G |-
  simp only[(hd a (An ..)).2,if_true,C,G]
theorem Asc (f:Nat)(w:List Nat)(B:∀c∈w,tk c=false):Ez f w=[w]:=by
 cases f with
 |zero=>rfl
 |succ f=>
  obtain⟨U,O⟩:=Xm (P:=fun c=> !tk c) w [] (fun c L=>by simp[B c L]) (fun c L=>by cases L);rw[Ct] at U O;rw[N0];rw[O,U]
noncomputable def Il (fl:List (Nat×List Nat×List Nat)):List Nat:=fl.flatMap fun q=>q.1::(q.2.1++46::q.2.2)
noncomputable def K5 (l:List Nat):List PV:=Gw ⟨l.toArray⟩
theorem Fz (l:List Nat)(L:List (List Nat)):Y7 (Pz (l::L))=K5 l++Y7 (Pz L):=rfl
noncomputable def Ang (p:List Nat):Prop:=(∀c∈p,tk c=false)\/(p≠[]/\∀c∈p,tk c=true/\dg c=true)
noncomputable def Auz (p:List Nat):Prop:=p≠[]/\∀c∈p,tk c=true/\dg c=true
theorem Ps:K5 []=[]:=by unfold K5 Gw;rw[if_pos (by decide+kernel)]
theorem Akh:K5 [46]=[]:=by unfold K5 Gw;rw[if_pos (by decide+kernel)]
theorem Afx:K5 [45]=[]:=by unfold K5 Gw;rw[if_pos (by decide+kernel)]
theorem Anh:K5 [95]=[]:=by unfold K5 Gw;rw[if_pos (by decide+kernel)]
noncomputable def Acw (g:Nat):Prop:=tk g=true/\dg g=false/\K5 [g]=[]
theorem Akw:Acw 45:=⟨by decide,by decide,Afx⟩
theorem Asa:Acw 95:=⟨by decide,by decide,Anh⟩
theorem Ac1:∀(fl:List (Nat×List Nat×List Nat)) (f:Nat),4*fl.length+1<=f->(∀q∈fl,Acw q.1/\Ang q.2.1/\Auz q.2.2)->
  Y7 (Pz (Ez f (Il fl)))=fl.flatMap fun q=>K5 q.2.1++K5 q.2.2
 |[],f,u,_=>by
  show Y7 (Pz (Ez f []))=[];rw[Asc f [] (fun _ h=>by cases h),Fz,Ps];rfl
 |(g,p,c)::fl,f,u,hq=>by
  obtain⟨⟨b,e,F⟩,U,O⟩:=hq (g,p,c) (An ..);dsimp only at b e F U O;rw[qi] at u;obtain⟨f,rfl⟩:∃i,f=i+4:=⟨f-4,A5f (Ab (Br 4 _) (N9 u))⟩;have J:=fun f u=>Ac1 fl f u (fun q h=>hq q (A4 _ h));have j:∀c,(Il fl).head?=some c->dg c=false:=fun c L=>by
   cases fl with
   |nil=>cases L
   |cons d fl=>cases L;exact(hq d (by simp)).1.2.1
  have a:tk 46=true/\dg 46=false:=by decide
  show Y7 (Pz (Ez (f+4) (([]:List Nat)++g::(p++46::c)++Il fl)))=(K5 p++K5 c)++_;rw[qm,qo,Az,qo];rw[show(g::(p++46::(c++Il fl)):List Nat)=[]++g::(p++46::(c++Il fl)) from rfl,Rr (f+3) [] _ g (fun _ h=>by cases h) b e,Fz,Fz,Ps,F];rcases U with U|⟨U,h1'⟩
  ·rw[Rr (f+2) p _ 46 U a.1 a.2,Fz,Fz,Akh];rw[show c++Il fl=[]++(c++Il fl) from rfl,Y0 (f+1) [] c _ (fun _ h=>by cases h) O.2 O.1 j,Fz,Fz,Ps,J (f+1) (El (A9r u))];simp[S8]
  ·rw[show p++46::(c++Il fl)=[]++(p++46::(c++Il fl)) from rfl,Y0 (f+2) [] p _ (fun _ h=>by cases h) h1' U (fun c L=>by cases L;exact a.2),Fz,Fz,Ps];rw[show(46::(c++Il fl):List Nat)=[]++46::(c++Il fl) from rfl,Rr (f+1) [] _ 46 (fun _ h=>by cases h) a.1 a.2,Fz,Fz,Ps,Akh];rw[show c++Il fl=[]++(c++Il fl) from rfl,Y0 f [] c _ (fun _ h=>by cases h) O.2 O.1 j,Fz,Fz,Ps,J f (A9r u)];simp[S8]
noncomputable def Iv:List (Str×Int):=[(oS "Rc",0),(oS "x",0),(oS "dev",10),(oS "a",20),(oS "alpha",20),(oS "b",30),(oS "beta",30),(oS "c",40),
 (oS "RC",50),(oS "rc",50),(oS "0",100),(oS "09",100),(oS "10",100),(oS "p",200),(oS "pl",200)]
noncomputable def Kv (q:Str×Int):List PV:=match PySem.intText? q.1 with
 |some n=>[.int 100,.int n]
 |none=>[.int q.2,.str q.1]
theorem Acp:∀q∈Iv,(PySem.intText? q.1).isSome=(q.2==100):=by decide+kernel
theorem Ani:∀q∈Iv,PySem.intText? q.1=none->Aq3 Ac9 q.1 0=q.2:=by decide+kernel
theorem Aww:∀q∈Iv,Kb (oS "._+-") q.1=false:=by decide+kernel
theorem Ary {q:Str×Int}(h:q∈Iv):Gw q.1=Kv q:=by
 unfold Gw;rw[if_neg (by rw[Aww q h];decide)];unfold Sj Kv;cases e:PySem.intText? q.1 with
 |some n=>rfl
 |none=>rw[Ani q h e]
theorem Arx:∀q∈Iv,((q.1.cps.toList.all fun c=> !tk c)||(!q.1.cps.toList.isEmpty&&q.1.cps.toList.all fun c=>tk c&&dg c))=true:=by decide+kernel
theorem Awy {q:Str×Int}(h:q∈Iv):Ang q.1.cps.toList:=by
 have:=Arx q h;rw[A8c] at this;rcases this with h|h
 ·exact .inl fun c L=>by simpa using Bd.mp h c L
 ·rw[A0] at h;exact .inr ⟨fun e=>by rw[e] at h;simp at h,fun c L=>by simpa using Bd.mp h.2 c L⟩
noncomputable def Vk (n:Nat):Str:=oS (Kz (n:Int))
theorem A0j:∀n<20,((!(Vk n).cps.toList.isEmpty&&(Vk n).cps.toList.all fun c=>tk c&&dg c)&& !Kb (oS "._+-") (Vk n))=true∧PySem.intText? (Vk n)=some (n:Int):=by decide+kernel
theorem Amq {n:Nat}(h:n<20):Auz (Vk n).cps.toList/\Gw (Vk n)=[.int 100,.int n]:=by
 obtain⟨U,O⟩:=A0j n h;rw[A0,A0] at U;refine⟨⟨fun e=>by rw[e] at U;simp at U,fun c L=>by simpa using Bd.mp U.1.2 c L⟩,?_⟩;unfold Gw;rw[if_neg (by simpa using U.2)];unfold Sj;rw[O]
noncomputable def Auy (x:Str):Bool:= !x.cps.toList.isEmpty&&decide (x.cps.toList.length<=25)&&x.cps.toList.all fun c=> !C9 c&& !([32,47,92,58,59,34,40,41,45,117]:List Nat).contains c&&decide (c<128)
noncomputable def Mk (q:Str×Int)(n:Nat):Str:=q.1++oS "."++Vk n
theorem Amw:∀q∈Iv,∀n<20,Auy (Mk q n)=true:=by decide+kernel
theorem Afc {q:Str×Int}(h:q∈Iv){n:Nat}(K:n<20):Vj (Mk q n)/\∀c∈(Mk q n).cps.toList,c<128:=by
 have:=Amw q h n K;unfold Auy at this;rw[A0,A0] at this;obtain⟨⟨U,O⟩,C⟩:=this;have C:=fun c L=>Bd.mp C c L;refine⟨⟨fun e=>by rw[e] at U;simp at U,of_decide_eq_true O,fun c L=>?_⟩,fun c L=>?_⟩
 ·have:=C c L;rw[A0,A0] at this;exact⟨by simpa using this.1.1,fun z=>by
   have:=this.1.2;rw[Kj.mpr z] at this;cases this⟩
 ·have:=C c L;rw[A0] at this;exact of_decide_eq_true this.2
noncomputable abbrev Fld:=(Str×Int)×Nat
noncomputable def Afa (q:Fld):Prop:=q.1∈Iv/\q.2<20
noncomputable def G1 (g:Nat)(q:Fld):Nat×List Nat×List Nat:=(g,q.1.1.cps.toList,(Vk q.2).cps.toList)
noncomputable def M0 (q:Fld):List PV:=Kv q.1++[.int 100,.int q.2]
theorem Aju {g:Nat}(M:Acw g){q:Fld}(h:Afa q):Acw (G1 g q).1/\Ang (G1 g q).2.1/\Auz (G1 g q).2.2:=⟨M,Awy h.1,(Amq h.2).1⟩
theorem Aph {g:Nat}{q:Fld}(h:Afa q):K5 (G1 g q).2.1++K5 (G1 g q).2.2=M0 q:=by
 have W:K5 (G1 g q).2.1=Gw q.1.1:=congrArg Gw (Acm q.1.1);have D:K5 (G1 g q).2.2=Gw (Vk q.2):=congrArg Gw (Acm (Vk q.2));rw[W,D,Ary h.1,(Amq h.2).2];rfl
theorem Afi (g:Nat):∀(q:Fld) (fl:List Fld),(I7 (ofL [g]) ((q::fl).map fun q=>Mk q.1 q.2)).cps.toList=(Mk q.1 q.2).cps.toList++Il (fl.map (G1 g))
 |q,[]=>by
  show(Mk q.1 q.2).cps.toList=_++([]:List Nat);rw[Ct]
 |q,r::fl=>by
  show(Mk q.1 q.2++ofL [g]++I7 (ofL [g]) ((r::fl).map fun q=>Mk q.1 q.2)).cps.toList=_;rw[B4,B4,Be,Be,(Afi g r fl)];show _=(Mk q.1 q.2).cps.toList++((g::(r.1.1.cps.toList++46::(Vk r.2).cps.toList))++Il (fl.map (G1 g)));have e:(Mk r.1 r.2).cps.toList=r.1.1.cps.toList++46::(Vk r.2).cps.toList:=by
   unfold Mk;rw[B4,B4,Be,Be,Az];rfl
  rw[e];simp[ofL]
theorem Ak6:∀fl:List (Nat×List Nat×List Nat),(∀q∈fl,q.2.1≠[]/\q.2.2≠[])->4*fl.length<=(Il fl).length
 |[],_=>Cb _
 |q::fl,h=>by
  have J:=Ak6 fl fun r j=>h r (A4 _ j);obtain⟨U,O⟩:=h q (An ..);have U:=G4.mpr U;have O:=G4.mpr O;show 4*(fl.length+1)<=((q.1::(q.2.1++46::q.2.2))++Il fl).length;simp only[As,qi];exact A98 J U O
theorem Ar7 {r:List Nat}(f:Nat):Y7 (Pz (Ez (f+1) ([114,105,110,103]++45::r)))=[.int 0,.str "ring"]++Y7 (Pz (Ez (f+1) ([]++45::r))):=by
 rw[Rr f [114,105,110,103] r 45 (by decide) (by decide) (by decide),Rr f [] r 45 (fun _ h=>by cases h) (by decide) (by decide)];rw[Fz,Fz,Fz,Fz,Ps,Afx];have:K5 [114,105,110,103]=[.int 0,.str "ring"]:=by
  have U:Kb (oS "._+-") (oS "ring")=false:=by decide+kernel
  have O:PySem.intText? (oS "ring")=none:=by decide+kernel
  have C:Aq3 Ac9 (oS "ring") 0=0:=by decide+kernel
  show Gw (oS "ring")=_;unfold Gw;rw[if_neg (by rw[U];decide)];unfold Sj;rw[O,C]
 rw[this];simp
theorem Afb (q:Fld):(Mk q.1 q.2).cps.toList=q.1.1.cps.toList++46::(Vk q.2).cps.toList:=by
 unfold Mk;rw[B4,B4,Be,Be,Az];rfl
theorem Awx:∀q∈Iv,q.1.cps.toList.isEmpty=false:=by decide+kernel
theorem V2:∀(g:Nat) (fl:List Fld),g<128->(∀q∈fl,Afa q)->(Il (fl.map (G1 g))).length<=26*fl.length/\∀c∈Il (fl.map (G1 g)),c<128
 |g,[],_,_=>⟨At _,fun c h=>by cases h⟩
 |g,q::fl,M,h=>by
  refine Aa fun C=>?_;obtain⟨i,a⟩:=V2 g fl M fun r j=>h r (A4 _ j);obtain⟨U,O⟩:=h q (An ..);obtain⟨⟨_,u,_⟩,B⟩:=Afc U O;refine C ?_;have e:Il ((q::fl).map (G1 g))=(g::(Mk q.1 q.2).cps.toList)++Il (fl.map (G1 g)):=by rw[Afb];rfl
  rw[e];refine⟨by simp only[As,qi];exact Ag1 i (A3 u),fun c L=>?_⟩;rcases B6.mp L with L|L
  ·rcases Av.mp L with rfl|L
   ·exact M
   ·exact B c L
  ·exact a c L
theorem Arb {g:Nat}(M:Acw g)(t:g<128)(q:Fld)(fl:List Fld)(hq:∀r∈q::fl,Afa r)(N:fl.length<=10)(Z:Mu):
  Vn [.p (.str (oS "ring-"++Cs (ofL [g]) ((q::fl).map fun q=>Mk q.1 q.2)))] Z=some (.list ([.int 0,.str "ring"]++(q::fl).flatMap M0),Z):=by
 have e0:(oS "ring-"++Cs (ofL [g]) ((q::fl).map fun q=>Mk q.1 q.2)).cps.toList=[114,105,110,103]++Il (G1 45 q::fl.map (G1 g)):=by
  rw[B4,Be,show Cs (ofL [g]) ((q::fl).map fun q=>Mk q.1 q.2)=I7 (ofL [g]) ((q::fl).map fun q=>Mk q.1 q.2) from Ka _ _,Afi,Afb];show([114,105,110,103,45]:List Nat)++_=[114,105,110,103]++((45::(q.1.1.cps.toList++46::(Vk q.2).cps.toList))++Il (fl.map (G1 g)));simp
 generalize oS "ring-"++Cs (ofL [g]) ((q::fl).map fun q=>Mk q.1 q.2)=x at e0;have i:x.cps.size=x.cps.toList.length:=by simp
 have I:=hq q (An ..);have b:=fun r j=>hq r (A4 _ j);refine Aa fun X=>?_;obtain⟨o,B⟩:=V2 g fl t b;obtain⟨s,v⟩:=V2 45 [q] (by decide) fun r j=>by rw[A6.mp j];exact I
 refine X ?_;have J:Il (G1 45 q::fl.map (G1 g))=Il ([q].map (G1 45))++Il (fl.map (G1 g)):=by
  show _=((45::_)++[])++_;rw[Ct];rfl
 have h:x.cps.toList.length<=600:=by
  rw[e0,J];simp only[As,qi,qj] at o s |-;exact Ab (Ar (Ax s (Ab o (Au _ N))) _) (by decide)
 have p:Tl x=true:=by
  unfold Tl;rw[A0];refine⟨decide_eq_true (by rw[i];exact h),Bd.mpr fun c L=>decide_eq_true ?_⟩;rw[e0,J] at L;rcases B6.mp L with L|L
  ·have key:∀c∈([114,105,110,103]:List Nat),c<128:=by decide
   exact key c L
  ·rcases B6.mp L with L|L
   ·exact v c L
   ·exact B c L
 have a:4*(G1 45 q::fl.map (G1 g)).length<=(Il (G1 45 q::fl.map (G1 g))).length:=Ak6 _ fun r j=>by
  have key:∀(g:Nat) (r:Fld),Afa r->(G1 g r).2.1≠[]/\(G1 g r).2.2≠[]:=fun g r j=>⟨(fun e=>by
   have:=Awx _ j.1;rw[show r.1.1.cps.toList=[] from e] at this;cases this),(Amq j.2).1.1⟩
  rcases Av.mp j with rfl|j
  ·exact key _ _ I
  ·obtain⟨Y,k,rfl⟩:=Bj.mp j;exact key _ _ (b Y k)
 show(if Tl _=true then _ else none)=_;rw[if_pos p,i,e0];have O:∃f,([114,105,110,103]++Il (G1 45 q::fl.map (G1 g)):List Nat).length+1=f+1/\4*(G1 45 q::fl.map (G1 g)).length<=f:=⟨_,rfl,by rw[As];exact Ab a (Br _ _)⟩;refine Aa fun y=>?_;obtain⟨f,n,m⟩:=O;refine y ?_;rw[n];have d:=Ac1 (G1 45 q::fl.map (G1 g)) (f+1) (Dt m) fun r j=>by
  rcases Av.mp j with rfl|j
  ·exact Aju Akw I
  ·obtain⟨Y,k,rfl⟩:=Bj.mp j;exact Aju M (b Y k)
 have hd:(G1 45 q::fl.map (G1 g)).flatMap (fun q=>K5 q.2.1++K5 q.2.2)=(q::fl).flatMap M0:=by
  rw[Ng,Ng,Aph I,Jh]
  congr 1
  rw[S8,S8]
  congr 1
  exact X4 fun r j=>Aph (b r j)
 rw[hd] at d;have:=(Ar7 (r:=(G1 45 q).2.1++46::(G1 45 q).2.2++Il (fl.map (G1 g))) f).trans (congrArg _ d);exact congrArg (fun l=>some (PV.list l,Z)) this
noncomputable def Og:List (List Nat):=[[1],[2],[3],[4],[1,2],[1,3],[1,4],[2,3],[2,4],[3,4],[1,2,3],[1,3,2],[1,2,4],[1,4,2],[1,3,4],[1,4,3],[2,3,4],[2,4,3],[1,2,3,4],[1,2,4,3],[1,3,2,4],[1,3,4,2],[1,4,2,3],[1,4,3,2]]
noncomputable def nxR (c:List Nat)(a:Nat):Nat:=(c++c.take 1).getD (c.idxOf a+1) 0
noncomputable def isR (f:Nat->Nat)(c:List Nat):Bool:=c.all fun a=>f a==nxR c a
noncomputable def Abe (n:Nat):Nat:=if n=0 then 0 else n%16%5
noncomputable def arF (a b c d:Nat)(v:Nat):Nat:=[0,a,b,c,d].getD v 0
noncomputable def arw (p:Nat->Nat):Nat->Nat:=arF (Abe (p 1)) (Abe (p 2)) (Abe (p 3)) (Abe (p 4))
noncomputable def Ds (c:List Nat)(p:Nat->Nat):Nat->Nat:=fun v=>if v∈c then p v/16 else p v
noncomputable def Gk (c:List Nat)(t:Nat->Nat):Nat->Nat:=fun v=>if v∈c then t v+1 else t v
noncomputable abbrev Lab:=List (Nat×Nat)
noncomputable def lab (c:List Nat)(t:Nat->Nat):Lab:=c.map fun v=>(v,t v)
theorem Abf (n:Nat):Abe n<5:=by unfold Abe;split<;>first|exact(by decide)|exact Ah (Ai (Cr _ (by decide))) (by decide)
theorem Yg (p:Nat->Nat){v:Nat}(U:1<=v)(G:v<=4):arw p v=Abe (p v):=by
 have:v=1\/v=2\/v=3\/v=4:=(Abc G U);rcases this with rfl|rfl|rfl|rfl<;>rfl
theorem Yh (p:Nat->Nat){v:Nat}(G:v<=4):arw p v<=4:=by
 rcases A23 v with rfl|h
 ·exact Cb _
 ·rw[Yg p h G];have:=Abf (p v);exact Ai this
theorem Jt:∀c∈Og,∀v∈c,1<=v/\v<=4/\nxR c v∈c:=by decide+kernel
theorem Oy:∀c∈Og,c.Nodup/\c≠[]/\c.length<=4:=by decide+kernel
theorem Az3:∀c∈Og,∀d∈Og,c=d\/(∀v∈c,v∉d)\/∃v∈c,v∈d/\nxR c v≠nxR d v:=by decide+kernel
theorem Ahp {f:Nat->Nat}{c:List Nat}(h:isR f c=true){v:Nat}(F:v∈c):f v=nxR c v:=by
 have:=Bd.mp h v F;simpa using this
theorem Av1 {f:Nat->Nat}{c:List Nat}(h:∀v∈c,f v=nxR c v):isR f c=true:=Bd.mpr fun v F=>by simpa using h v F
theorem Am3 {f:Nat->Nat}{c d:List Nat}(L:c∈Og)(hd:d∈Og)(h:isR f c=true)(h':isR f d=true)(W:c≠d):∀v∈c,v∉d:=by
 rcases Az3 c L d hd with e|e|⟨v,h1,h2,h3⟩
 ·exact absurd e W
 ·exact e
 ·exact absurd ((Ahp h h1).symm.trans (Ahp h' h2)) h3
theorem Av0 {f:Nat->Nat}{c:List Nat}(L:c∈Og)(h:isR f c=true){v:Nat}(F:v∈c):f v∈c:=by
 rw[Ahp h F];exact(Jt c L v F).2.2
theorem Rp {p:Nat->Nat}{c:List Nat}(L:c∈Og)(h:isR (arw p) c=true){v:Nat}(F:v∈c):p v≠0:=fun e=>by
 obtain⟨U,G,_⟩:=Jt c L v F;have:=Av0 L h F;rw[Yg p U G,e] at this;exact absurd (Jt c L _ this).1 (by decide)
theorem Ag4 (p:Nat->Nat){c:List Nat}{v:Nat}(U:1<=v)(G:v<=4)(F:v∉c):arw (Ds c p) v=arw p v:=by
 rw[Yg _ U G,Yg _ U G];unfold Ds;rw[if_neg F]
theorem Acv {p:Nat->Nat}{c d:List Nat}(L:c∈Og)(hd:d∈Og)(h:isR (arw p) c=true)(h':isR (arw p) d=true)(W:c≠d):isR (arw (Ds c p)) d=true:=
 Av1 fun v F=>by
  obtain⟨U,G,_⟩:=Jt d hd v F;rw[Ag4 p U G (Am3 hd L h' h (Vd W) v F),Ahp h' F]
theorem An3 (c d:List Nat)(p:Nat->Nat):Ds c (Ds d p)=Ds d (Ds c p):=by
 funext v;unfold Ds;by_cases h:v∈c<;>by_cases h':v∈d<;>simp[h,h']
theorem An4 (c d:List Nat)(t:Nat->Nat):Gk c (Gk d t)=Gk d (Gk c t):=by
 funext v;unfold Gk;by_cases h:v∈c<;>by_cases h':v∈d<;>simp[h,h']
theorem Afj {c d:List Nat}(t:Nat->Nat)(h:∀v∈c,v∉d):lab c (Gk d t)=lab c t:=by
 unfold lab;exact X4 fun v F=>by unfold Gk;rw[if_neg (h v F)]
inductive I8:(Nat->Nat)->(Nat->Nat)->List Lab->(Nat->Nat)->(Nat->Nat)->Prop
 |nil {p t:Nat->Nat}:I8 p t [] p t
 |cons {p t p' t':Nat->Nat}{c:List Nat}{L:List Lab}:c∈Og->isR (arw p) c=true->I8 (Ds c p) (Gk c t) L p' t'->I8 p t (lab c t::L) p' t'
noncomputable def NoR (p:Nat->Nat):Prop:=∀c∈Og,isR (arw p) c=false
theorem I8.app {p t S f g t'':Nat->Nat}{L m:List Lab}(h:I8 p t L S f)(h':I8 S f m g t''):I8 p t (L++m) g t'':=by
 induction h with
 |nil=>exact h'
 |cons U O _ J=>exact .cons U O (J h')
theorem I8.one {p t:Nat->Nat}{c:List Nat}(U:c∈Og)(O:isR (arw p) c=true):I8 p t [lab c t] (Ds c p) (Gk c t):=.cons U O .nil
theorem Bb5 {p t S f:Nat->Nat}{L:List Lab}(h:I8 p t L S f)(K:NoR S):∀c∈Og,isR (arw p) c=true->∃m,I8 (Ds c p) (Gk c t) m S f/\L.Perm (lab c t::m):=by
 induction h with
 |nil=>intro c u h;rw[K c u] at h;cases h
 | @cons p t S f d L hd O C J=>
  intro c u h;by_cases e:c=d
  ·subst e;exact⟨L,C,.refl _⟩
  ·obtain⟨m,o,i2⟩:=J K c u (Acv hd u O h (Vd e));rw[An3,An4] at o;refine⟨lab d t::m,?_,?_⟩
   ·have:=I8.cons hd (Acv u hd h O e) o;rwa[Afj t (Am3 hd u O h (Vd e))] at this
   ·rw[Afj t (Am3 u hd h O e)] at i2;exact((Ayn _ i2).trans (Adh _ _ _))
theorem Bac {p t S f:Nat->Nat}{L:List Lab}(h:I8 p t L S f)(K:NoR S):∀{g u:Nat->Nat} {L':List Lab},I8 p t L' g u->NoR g->L.Perm L':=by
 induction h with
 |nil=>
  intro g u L' h' _;cases h' with
  |nil=>exact .refl _
  |cons U O _=>rw[K _ U] at O;cases O
 |cons U O C J=>
  intro g u L' h' a;obtain⟨B,o,i2⟩:=Bb5 h' a _ U O;exact(Ayn _ (J K o a)).trans i2.symm
theorem Axt (c:List Nat)(t:Nat->Nat)(v:Nat):t v<=Gk c t v:=by unfold Gk;split<;>first|exact Bl _ _|exact Aj rfl
theorem Axo {p t S f:Nat->Nat}{L:List Lab}(h:I8 p t L S f):∀l∈L,∀q∈l,t q.1<=q.2:=by
 induction h with
 |nil=>intro l N;cases N
 | @cons p t S f c L U O _ J=>
  intro l N q hq;rcases Av.mp N with rfl|N
  ·obtain⟨v,_,rfl⟩:=Bj.mp hq;exact At _
  ·exact Ab (Axt c t q.1) (J l N q hq)
theorem Acz {p t S f:Nat->Nat}{L:List Lab}(h:I8 p t L S f):L.Nodup:=by
 induction h with
 |nil=>exact A84
 | @cons p t S f c L U O C J=>
  refine C4.mpr ⟨fun z=>?_,J⟩;refine exe2 (K0 (Oy c U).2.1) fun v r d=>?_;subst d;have:=Axo C _ z (v,t v) (An ..);unfold Gk at this;rw[if_pos (An ..)] at this;exact absurd this (by simp)
noncomputable def Bnd (p t:Nat->Nat):Prop:=∀v,1<=v->v<=4->p v*16^t v<65536
theorem Bnd.take {p t:Nat->Nat}(h:Bnd p t)(c:List Nat):Bnd (Ds c p) (Gk c t):=fun v U G=>by
 have:=h v U G;unfold Ds Gk;by_cases F:v∈c
 ·rw[if_pos F,if_pos F,Uw];have e:p v/16*(16^t v*16)=(p v/16*16)*16^t v:=by rw[Ib (16^t v) 16,Nat.mul_assoc]
  rw[e];exact Ah (Gn _ (Nat.div_mul_le_self _ _)) this
 ·rw[if_neg F,if_neg F];exact this
theorem Bnd.p_lt {p t:Nat->Nat}(h:Bnd p t){v:Nat}(U:1<=v)(G:v<=4):p v<65536:=
 Ah (T7 _ (Xx (by decide))) (h v U G)
theorem Bnd.t_lt {p t:Nat->Nat}(h:Bnd p t){v:Nat}(U:1<=v)(G:v<=4)(I:p v≠0):t v<4:=by
 rcases Nat.lt_or_ge (t v) 4 with e|e
 ·exact e
 ·have h:=h v U G;have:16^4<=p v*16^t v:=Ab (Er (by decide) e) (N8 _ (Ha I));have k:(16:Nat)^4=65536:=by decide
  lia
noncomputable def lgF:Nat->Nat->Nat
 |0,_=>0
 |f+1,n=>if n=0 then 0 else lgF f (n/16)+1
theorem Bav (f n:Nat):lgF (f+1) n=if n=0 then 0 else lgF f (n/16)+1:=rfl
noncomputable def lg (n:Nat):Nat:=lgF 4 n
theorem Am5:∀f n,lgF f n<=f
 |0,_=>At _
 |f+1,n=>by
  rw[Bav];split
  ·exact Cb _
  ·exact A3 (Am5 f _)
theorem Acb:∀f n,n<16^f->lgF (f+1) n=lgF f n
 |0,n,h=>if_pos (Rx.mp h)
 |f+1,n,h=>by
  show(if n=0 then 0 else lgF (f+1) (n/16)+1)=if n=0 then 0 else lgF f (n/16)+1;rw[Acb f (n/16) (Fa (Ib ..▸h))]
theorem A32 (n:Nat):lg n<=4:=Am5 4 n
theorem A6n {n:Nat}(h:n<4096):lg n<=3:=Ab (Aj (Acb 3 n h)) (Am5 3 n)
theorem A6o {n:Nat}(h:n≠0):1<=lg n:=Ab (Br 1 (lgF 3 (n/16))) (Aj (if_neg h:(if n=0 then 0 else lgF 3 (n/16)+1)=_).symm)
noncomputable def Ms (p:Nat->Nat):Nat:=lg (p 1)+lg (p 2)+lg (p 3)+lg (p 4)
theorem Awb {n:Nat}(h:n≠0)(Y:n<65536):lg (n/16)+1=lg n:=(congrArg (·+1) (Acb 3 (n/16) (Fa Y))).trans (if_neg h).symm
theorem A5i (a b c d e f g h:Nat):a+b+c+d+(e+f+g+h)=(a+e)+(b+f)+(c+g)+(d+h):=by
 rw[P2 (a+b+c),P2 (a+b),P2 a]
theorem Agk {p t:Nat->Nat}(Y:Bnd p t){c:List Nat}(L:c∈Og)(h:isR (arw p) c=true):Ms (Ds c p)+c.length=Ms p:=by
 have g:∀v,1<=v->v<=4->lg (Ds c p v)+(if v∈c then 1 else 0)=lg (p v):=fun v U G=>by
  unfold Ds;by_cases F:v∈c
  ·rw[if_pos F,if_pos F];exact Awb (Rp L h F) (Y.p_lt U G)
  ·rw[if_neg F,if_neg F];rfl
 have k:∀c∈Og,((if 1∈c then 1 else 0)+(if 2∈c then 1 else 0)+(if 3∈c then 1 else 0)+(if 4∈c then 1 else 0):Nat)=c.length:=by decide+kernel
 have k:=k c L;have e:=g 1 (by decide) (by decide);have B:=g 2 (by decide) (by decide);have C:=g 3 (by decide) (by decide);have D:=g 4 (by decide) (by decide);unfold Ms;rw[<-k,<-e,<-B,<-C,<-D];exact A5i ..
theorem Y2 {p t S f:Nat->Nat}{L:List Lab}(h:I8 p t L S f)(Y:Bnd p t):L.length+Ms S<=Ms p:=by
 induction h with
 |nil=>simp
 |cons U O _ J=>
  exact Ab (Ab (Aj (Dg _ 1 _)) (Ax (J (Y.take _)) (G4.mpr (Oy _ U).2.1))) (Aj (Agk Y U O))
theorem Af5 {p t S f:Nat->Nat}{L:List Lab}(h:I8 p t L S f)(Y:Bnd p t):Bnd S f/\∀l∈L,(∀q∈l,1<=q.1/\q.1<=4/\q.2<4)/\l≠[]:=by
 induction h with
 |nil=>exact⟨Y,fun l N=>by cases N⟩
 | @cons p t S f c L U O _ J=>
  obtain⟨o,i2⟩:=J (Y.take _);refine⟨o,fun l N=>?_⟩;rcases Av.mp N with rfl|N
  ·refine⟨fun q hq=>?_,fun e=>(Oy c U).2.1 (Aym.mp e)⟩;refine Aa fun z=>?_;obtain⟨v,F,rfl⟩:=Bj.mp hq;obtain⟨u,H,_⟩:=Jt c U v F;exact z ⟨u,H,Y.t_lt u H (Rp U O F)⟩
  ·exact i2 l N
inductive Ve (f:Nat->Nat):Nat->Prop
 |zero:Ve f 0
 |step {v:Nat}:Ve f (f v)->Ve f v
theorem Akv {f:Nat->Nat}{c:List Nat}(L:c∈Og)(h:isR f c=true){v:Nat}(s:Ve f v):v∉c:=by
 induction s with
 |zero=>exact fun F=>absurd (Jt c L 0 F).1 (by decide)
 |step _ J=>exact fun F=>J (Av0 L h F)
theorem Ans {p:Nat->Nat}{c:List Nat}(L:c∈Og)(h:isR (arw p) c=true){v:Nat}(s:Ve (arw p) v)(G:v<=4):Ve (arw (Ds c p)) v:=by
 induction s with
 |zero=>exact .zero
 | @step v s J=>
  rcases A23 v with rfl|h1
  ·exact .zero
  ·refine .step ?_;rw[Ag4 p h1 G (Akv L h (.step s))];exact J (Yh p G)
theorem Axf {p:Nat->Nat}(h:∀v,1<=v->v<=4->Ve (arw p) v):NoR p:=fun c L=>by
 cases e:isR (arw p) c with
 |false=>rfl
 |true=>
  refine exe2 (K0 (Oy c L).2.1) fun v r o=>?_;subst o;obtain⟨U,G,_⟩:=Jt _ L v (An ..);exact absurd (An ..) (Akv L e (h v U G))
noncomputable def Su (f:Nat->Nat):Nat->List Nat->List Nat
 |0,l=>l
 |n+1,l=>if(l++[0]).contains (f (l.getLast?.getD 0))=true then l else Su f n (l++[f (l.getLast?.getD 0)])
theorem Apl (f:Nat->Nat)(n:Nat)(l:List Nat):Su f (n+1) l=if(l++[0]).contains (f (l.getLast?.getD 0))=true then l else Su f n (l++[f (l.getLast?.getD 0)]):=rfl
noncomputable def Ny:List Nat->Nat
 |[]=>0
 |[a]=>a
 |a::r=>min a (Ny r)
noncomputable def W2 (f:Nat->Nat)(s:Nat):List (List Nat):=let l:=Su f 4 [s];if(f (l.getLast?.getD 0)==s&&s==Ny l)=true then[l] else[]
noncomputable def Lc (f:Nat->Nat):List (List Nat):=W2 f 1++(W2 f 2++(W2 f 3++W2 f 4))
noncomputable def Fk (m:List Nat):List Nat:=m.drop (m.idxOf (Ny m))++m.take (m.idxOf (Ny m))
noncomputable def Aoq (f:Nat->Nat):Bool:=(Lc f).all (fun r=>Og.contains r&&isR f r&&(Fk r==r))&&(!(Lc f).isEmpty||Og.all fun r=> !isR f r)
theorem A5b:∀a<5,∀b<5,∀c<5,∀d<5,Aoq (arF a b c d)=true:=by decide+kernel
theorem Aor (p:Nat->Nat):Aoq (arw p)=true:=A5b _ (Abf _) _ (Abf _) _ (Abf _) _ (Abf _)
theorem Agz (p:Nat->Nat):∀r∈Lc (arw p),r∈Og/\isR (arw p) r=true/\Fk r=r:=fun r j=>by
 have:=Aor p;unfold Aoq at this;rw[A0] at this;have:=Bd.mp this.1 r j;simpa[and_assoc] using this
theorem W4 {u:Type}(l r:List u)(d:u)(i:Nat)(h:i<l.length):(l++r).getD i d=l.getD i d:=by
 simp only[B7,Cz h]
theorem A5a (p:Nat->Nat)(h:Lc (arw p)=[]):NoR p:=fun c L=>by
 have:=Aor p;unfold Aoq at this;rw[A0,h] at this;have:=this.2;simp at this;exact this c L
noncomputable def L4:List (List Nat):=let e (l:List Nat):=([1,2,3,4].filter fun v=> !l.contains v).map fun v=>l++[v]
 let g:=e [];let s:=g.flatMap e;let h:=s.flatMap e;g++(s++(h++h.flatMap e))
theorem Arz:∀a∈([1,2,3,4]:List Nat),[a]∈L4:=by decide+kernel
theorem Ar0:∀a∈([1,2,3,4]:List Nat),∀b∈([1,2,3,4]:List Nat),[a,b].Nodup->[a,b]∈L4:=by decide+kernel
theorem Ar1:∀a∈([1,2,3,4]:List Nat),∀b∈([1,2,3,4]:List Nat),∀c∈([1,2,3,4]:List Nat),[a,b,c].Nodup->[a,b,c]∈L4:=by decide+kernel
theorem Ar2:∀a∈([1,2,3,4]:List Nat),∀b∈([1,2,3,4]:List Nat),∀c∈([1,2,3,4]:List Nat),∀d∈([1,2,3,4]:List Nat),[a,b,c,d].Nodup->[a,b,c,d]∈L4:=by decide+kernel
theorem Ar3:∀a∈([1,2,3,4]:List Nat),∀b∈([1,2,3,4]:List Nat),∀c∈([1,2,3,4]:List Nat),∀d∈([1,2,3,4]:List Nat),∀e∈([1,2,3,4]:List Nat),¬[a,b,c,d,e].Nodup:=by decide+kernel
theorem Pu {l:List Nat}(h:∀v∈l,1<=v/\v<=4)(A:l.Nodup)(K:l≠[]):l∈L4:=by
 have m:∀v∈l,v∈([1,2,3,4]:List Nat):=fun v F=>by
  have:=h v F;have:v=1\/v=2\/v=3\/v=4:=(Abc this.2 this.1);rcases this with rfl|rfl|rfl|rfl<;>decide
 match l,m,A,K with
 |[a],m,A,_=>exact Arz a (m a (by simp))
 |[a,b],m,A,_=>exact Ar0 a (m a (by simp)) b (m b (by simp)) A
 |[a,b,c],m,A,_=>exact Ar1 a (m a (by simp)) b (m b (by simp)) c (m c (by simp)) A
 |[a,b,c,d],m,A,_=>exact Ar2 a (m a (by simp)) b (m b (by simp)) c (m c (by simp)) d (m d (by simp)) A
 |a::b::c::d::e::r,m,A,_=>
  exact absurd (List.Sublist.nodup (by simp:List.Sublist [a,b,c,d,e] (a::b::c::d::e::r)) A) (Ar3 a (m a (by simp)) b (m b (by simp)) c (m c (by simp)) d (m d (by simp)) e (m e (by simp)))
theorem M2:∀l∈L4,l.length<=4/\l≠[]/\l.Nodup/\∀v∈l,1<=v/\v<=4:=by decide+kernel
theorem Uh:∀l∈L4,Fk l∈Og/\(∀v∈l,v∈Fk l)/\∀v∈Fk l,v∈l/\nxR (Fk l) v=(l++l.take 1).getD (l.idxOf v+1) 0:=by decide+kernel
structure Rc (f:Nat->Nat)(l:List Nat)(x:Nat):Prop where
 inR:∀v∈l,1<=v/\v<=4
 nd:l.Nodup
 nx:∀i<l.length,f (l.getD i 0)=(l++[x]).getD (i+1) 0
theorem Rc.app {f:Nat->Nat}{l:List Nat}{x:Nat}(h:Rc f l x)(R:x∉l)(U:1<=x)(G:x<=4):Rc f (l++[x]) (f x) where
 inR:=fun v F=>by
  rcases B6.mp F with F|F
  ·exact h.inR v F
  ·rw[A6.mp F];exact⟨U,G⟩
 nd:=Hp.mpr ⟨h.nd,by simp,fun a M b Y=>by rw[A6.mp Y];exact fun e=>R (e▸M)⟩
 nx:=fun i H=>by
  simp only[As,Kk] at H;rcases Nat.lt_or_ge i l.length with e|e
  ·have:=h.nx i e;rw[W4 l [x] 0 i e,this,W4 (l++[x]) [f x] 0 (i+1) (by simp;exact e)]
  ·have:i=l.length:=(Nat.eq_of_le_of_lt_succ e H);subst this;simp[B7]
theorem Rc.ring {f:Nat->Nat}{l:List Nat}{x:Nat}(h:Rc f l x)(R:x∈l):Fk (l.drop (l.idxOf x))∈Og/\isR f (Fk (l.drop (l.idxOf x)))=true/\(∀v∈l.drop (l.idxOf x),v∈Fk (l.drop (l.idxOf x)))/\∀v∈Fk (l.drop (l.idxOf x)),v∈l.drop (l.idxOf x):=by
 have H:=E2 R;have o:l[l.idxOf x]=x:=Mf H;generalize l.idxOf x=k at H o;have hd:l.drop k=x::l.drop (k+1):=by rw[Cc H,o]
 have z:∀v∈l.drop k,v∈l:=fun v F=>(Sk k l).subset F;have w:(l.drop k).Nodup:=(Sk k l).nodup h.nd;have I:l.drop k∈L4:=Pu (fun v F=>h.inR v (z v F)) w (by rw[hd];simp);obtain⟨a,r,N⟩:=Uh _ I;refine⟨a,Av1 fun v F=>?_,r,fun v F=>(N v F).1⟩;obtain⟨q1,q2⟩:=N v F;rw[q2];have E:=E2 q1;have b:(l.drop k)[(l.drop k).idxOf v]=v:=Mf E;generalize (l.drop k).idxOf v=j at E b;rw[D0] at E;have:=h.nx (k+j) (Ou E);have W:l.getD (k+j) 0=v:=by
  rw[<-b];simp[B7];rw[Bx (Ou E)];rfl
 rw[W] at this;rw[this];have D:l.drop k++(l.drop k).take 1=(l++[x]).drop k:=by
  rw[List.drop_append_of_le_length (Ba H)]
  congr 1
  rw[hd];rfl
 rw[D];simp[B7,Dj]
theorem Rc.cut {f:Nat->Nat}{l:List Nat}{x:Nat}(h:Rc f l x)(R:x∈l):Rc f (l.take (l.idxOf x)) x:=by
 have H:=E2 R;have o:l[l.idxOf x]=x:=Mf H;generalize l.idxOf x=k at H o;refine⟨fun v F=>h.inR v ((Sn k l).subset F),(Sn k l).nodup h.nd,fun i r=>?_⟩;rw[Ef] at r;have:=h.nx i (Ay r (Ad9 _ _));have W:(l.take k).getD i 0=l.getD i 0:=by simp only[B7,J0];rw[if_pos (Ay r (G5 _ _))]
 have D:l.take k++[x]=(l++[x]).take (k+1):=by
  rw[Ad8 (Ft H),Ni H,o]
 rw[W,this,D];simp only[B7,J0];rw[if_pos (Nat.succ_lt_succ (Ay r (G5 _ _)))]
theorem Rc.off {f g:Nat->Nat}{l:List Nat}{x:Nat}(h:Rc f l x)(e:∀v∈l,g v=f v):Rc g l x:=⟨h.inR,h.nd,fun i H=>by
 rw[e _ (by rw[B7,Bx H];exact S9 H)];exact h.nx i H⟩
theorem Rc.safe {f:Nat->Nat}{l:List Nat}{x:Nat}(h:Rc f l x)(s:Ve f x):∀v∈l,Ve f v:=by
 have key:∀j,j<=l.length->Ve f ((l++[x]).getD (l.length-j) 0):=fun j=>by
  induction j with
  |zero=>intro _;simpa[B7] using s
  |succ j J=>
   intro E;refine .step ?_;have:=h.nx (l.length-(j+1)) (Ki (Br _ _) E);rw[W4 _ _ _ _ (Ki (Br _ _) E),this,show l.length-(j+1)+1=l.length-j from(A5k E)];exact J (Bm E)
 intro v F;have H:=E2 F;have M:l[l.idxOf v]=v:=Mf H;have:=key (l.length-l.idxOf v) (Dy _ _);rw[show l.length-(l.length-l.idxOf v)=l.idxOf v from(A8g (Ba H)),W4 _ _ _ _ H] at this;rw[B7,Bx H,M] at this;exact this
section
theorem Bca (a b:Nat)(h:b≠0):Jp (a:Int) (b:Int)=some ((a%b:Nat):Int):=by
 unfold Jp;rw[if_pos (by lia),K7 _ (By _)];rfl
theorem Bb4 (a b:Nat)(h:b≠0)(Y:b<2^900):Nu (a:Int) (b:Int)=some ((a/b:Nat):Int):=by
 unfold Nu;have:b<big:=Cv Y (by unfold big;exact La (by decide) (by decide));rw[if_pos ⟨by omega,by simpa using this⟩,E9 _ (By _)];rfl
theorem Aht {n:Nat}(h:n<2^900):n<big:=Cv h (by unfold big;exact La (by decide) (by decide))
theorem Bcb {a b:Int}(h:a.natAbs<2^900)(h':b.natAbs<2^900):A1m a b=some (a*b):=by
 unfold A1m;rw[if_pos ⟨Aht h,Aht h'⟩]
theorem A6a {i n:Nat}(h:i<n):idx (i:Int) n=some i:=(if_neg (K8.mpr (By i))).trans (if_pos (E3.mpr h))
theorem Bal {n:Nat}(h:0<n):idx (-1) n=some (n-1):=by
 cases n with
 |zero=>exact absurd h (Em 0)
 |succ m=>
  have e:(-1:Int)+((m+1:Nat):Int)=m:=by rw[A8y,I5,S6];exact N3 _
  unfold idx;rw[if_pos (by decide),e];exact if_pos (By m)
theorem Qy {Z:Mu}{i:Nat}{l:List PV}(h:Z[i]?=some (some (.lst l))):E0 Z (.mu i)=some l:=by dsimp only[E0];rw[h]
theorem Ahm {x:Option (List PV)}{Z:Mu}{i:Int}{l:List PV}{j:Nat}{y:PV}(h:x=some l)(N:l.length<=16777216)(H:idx i l.length=some j)(R:l[j]?=some y):
  (x.bind fun l=>if l.length<=16777216 then(idx i l.length).bind fun j=>(l[j]?).map fun x=>(MV.p x,Z) else none)=some (.p y,Z):=Gh h ((if_pos N).trans (Gh H (Is R)))
theorem Pm {Z:Mu}{i:Nat}{l:List PV}{j:Nat}{x:PV}(h:Z[i]?=some (some (.lst l)))(N:l.length<=16777216)(R:l[j]?=some x):D6 (.mu i) (.p (.int (j:Int))) Z=some (.p x,Z):=Ahm (Qy h) N (A6a (Aq.mp R).1) R
theorem Ahk {Z:Mu}{l:List PV}{j:Nat}{x:PV}(N:l.length<=16777216)(R:l[j]?=some x):D6 (.p (.list l)) (.p (.int (j:Int))) Z=some (.p x,Z):=Ahm (x:=some l) rfl N (A6a (Aq.mp R).1) R
theorem R9 {Z:Mu}{l:List PV}{j:Nat}{x:PV}(N:l.length<=16777216)(R:l[j]?=some x):D6 (.p (.tuple l)) (.p (.int (j:Int))) Z=some (.p x,Z):=Ahm (x:=some l) rfl N (A6a (Aq.mp R).1) R
theorem W9 {u:Type}{l:List u}{x:u}(R:l.getLast?=some x):0<l.length/\l[l.length-1]?=some x:=⟨G4.mpr fun e=>(by rw[e] at R;exact nomatch R),List.getLast?_eq_getElem?.symm.trans R⟩
theorem A01 {Z:Mu}{i:Nat}{l:List PV}{x:PV}(h:Z[i]?=some (some (.lst l)))(N:l.length<=16777216)(R:l.getLast?=some x):D6 (.mu i) (.p (.int (-1))) Z=some (.p x,Z):=Ahm (Qy h) N (Bal (W9 R).1) (W9 R).2
theorem Apj {Z:Mu}{l:List UInt8}{x:UInt8}(N:l.length<=16777216)(R:l.getLast?=some x):D6 (.p (.bytes l.toArray)) (.p (.int (-1))) Z=some (.p (.int x.toNat),Z):=
 (if_pos N).trans (Gh (Bal (W9 R).1) (Is (Ed.trans (W9 R).2)))
theorem Yd {Z:Mu}{i:Nat}{l:List PV}{x:PV}(h:Z[i]?=some (some (.lst l)))(N:l.length<=16777216):Ix [.mu i,.p x] Z=some (.p .none,Z.set i (some (.lst (l++[x])))):=Aes h N
theorem Ah4 {a b:EM}{V:Sl}{Z:Mu}{i j:Nat}{l:List PV}{z:PV}(M:a V Z=some (.mu i,Z))(Y:b V Z=some (.p (.int (j:Int)),Z))(h:Z[i]?=some (some (.lst l)))(N:l.length<=16777216)(E:j<l.length):
  Akx a b V Z (.p z)=some (V,Z.set i (some (.lst (l.set j z)))):=Axh M Y h E N
noncomputable def L5 (g:Nat->PV):List PV:=[g 0,g 1,g 2,g 3,g 4]
theorem A4w (g:Nat->PV):(L5 g).length=5:=rfl
theorem On (g:Nat->PV):(L5 g).length<=16777216:=by rw[A4w];decide
theorem lt5 {P:Nat->Prop}(I:P 0)(U:P 1)(O:P 2)(C:P 3)(G:P 4){v:Nat}(h:v<5):P v:=
 Nat.casesOn v (fun _=>I) (fun v=>Nat.casesOn v (fun _=>U) fun v=>Nat.casesOn v (fun _=>O) fun v=>Nat.casesOn v (fun _=>C) fun v=>Nat.casesOn v (fun _=>G) fun v h=>absurd h (Als.mpr (Br 5 v))) h
theorem Of (g:Nat->PV){v:Nat}(h:v<5):(L5 g)[v]?=some (g v):=lt5 (P:=fun v=>(L5 g)[v]?=some (g v)) rfl rfl rfl rfl rfl h
theorem Al1 (g:Nat->PV){v:Nat}(h:v<5)(x:PV):(L5 g).set v x=L5 (fun i=>if i=v then x else g i):=lt5 (P:=fun v=>(L5 g).set v x=L5 (fun i=>if i=v then x else g i)) rfl rfl rfl rfl rfl h
noncomputable def Mm (Z0z:Mu)(P W R K:List PV)(rest:Mu):Mu:=Z0z++(some (.lst P)::some (.lst W)::some (.lst R)::some (.lst K)::rest)
section
variable (Z0z:Mu)(P W R K:List PV)(rest:Mu)
theorem R2:(Mm Z0z P W R K rest).length=Z0z.length+4+rest.length:=by unfold Mm;simp;exact Eq.symm (Dg _ _ _)
theorem Te (l:Mu):Mm Z0z P W R K rest++l=Mm Z0z P W R K (rest++l):=by unfold Mm;simp
theorem Azg:(Mm Z0z P W R K rest)[Z0z.length]?=some (some (.lst P)):=by unfold Mm;simp
theorem Atw:(Mm Z0z P W R K rest)[Z0z.length+1]?=some (some (.lst W)):=by unfold Mm;rw[E8 (Bl _ _),Cn];rfl
theorem Azh:(Mm Z0z P W R K rest)[Z0z.length+2]?=some (some (.lst R)):=by unfold Mm;rw[E8 (Bl _ _),Cn];rfl
theorem Al2:(Mm Z0z P W R K rest)[Z0z.length+3]?=some (some (.lst K)):=by unfold Mm;rw[E8 (Bl _ _),Cn];rfl
theorem Zz (j:Nat):(Mm Z0z P W R K rest)[Z0z.length+4+j]?=rest[j]?:=by
 unfold Mm;rw[E8 (Ab (Bl _ 4) (Bl _ _)),show Z0z.length+4+j-Z0z.length=j+4 by rw[Dj,Cn,Cu]];rfl
theorem A3h (x:List PV):(Mm Z0z P W R K rest).set Z0z.length (some (.lst x))=Mm Z0z x W R K rest:=by unfold Mm;simp
theorem A9h (x:List PV):(Mm Z0z P W R K rest).set (Z0z.length+1) (some (.lst x))=Mm Z0z P x R K rest:=by unfold Mm;rw[G7 _ _ (Bl _ _),Cn];rfl
theorem A9i (x:List PV):(Mm Z0z P W R K rest).set (Z0z.length+2) (some (.lst x))=Mm Z0z P W x K rest:=by unfold Mm;rw[G7 _ _ (Bl _ _),Cn];rfl
theorem A9j (x:List PV):(Mm Z0z P W R K rest).set (Z0z.length+3) (some (.lst x))=Mm Z0z P W R x rest:=by unfold Mm;rw[G7 _ _ (Bl _ _),Cn];rfl
theorem Aaw (j:Nat)(x:Option MO):(Mm Z0z P W R K rest).set (Z0z.length+4+j) x=Mm Z0z P W R K (rest.set j x):=by
 unfold Mm;rw[G7 _ _ (Ab (Bl _ 4) (Bl _ _)),show Z0z.length+4+j-Z0z.length=j+4 by rw[Dj,Cn,Cu]];rfl
theorem Azi (l:Mu):(Mm Z0z P W R K (rest++l)).take (Z0z.length+4+rest.length)=Mm Z0z P W R K rest:=by
 rw[<-Te,<-R2 Z0z P W R K rest];exact K1
theorem Pa (x:List PV):(Mm Z0z P W R K (rest++[some (.lst x)]))[Z0z.length+4+rest.length]?=some (some (.lst x)):=by rw[Zz];simp
end
noncomputable def F0 (n:Nat):List UInt8:=apL 99 n
noncomputable def Ej (n:Nat):PV:=.bytes (F0 n).toArray
noncomputable def Pw (n:Nat):Str:=ofL (Bb (n+1) 46)
theorem Axa (n:Nat):Pw n++oS "."=Pw (n+1):=by
 apply Ld;rw[B4,Be];show Bb (n+1) 46++[46]=Bb (n+2) 46;rw[<-Atf]
theorem Nz (n:Nat):(Pw n).length=n+1:=by unfold Pw;rw[H9,Asy]
theorem Wn (f:Nat):∀(g n:Nat),n<16^f->n<16^g->apL f n=apL g n:=by
 have z:∀g,apL g 0=[]:=fun g=>by cases g<;>rfl
 have lt:∀{f n:Nat},n<16^(f+1)->n/16<16^f:=fun{f n} h=>by rw[Atn (by decide)];rwa[Uw] at h
 induction f with
 |zero=>exact fun g n h _=>by rw[Rx.mp h,z,z]
 |succ f J=>
  intro g n h h';cases g with
  |zero=>rw[Rx.mp h',z,z]
  |succ g=>rw[Auk,Auk,J g (n/16) (lt h) (lt h')]
theorem M4 {n f:Nat}(h:n<65536)(O:4<=f):n<16^f:=Ay h (Ab (by decide:65536<=16^4) (Er (by decide) O))
theorem V3 {n:Nat}(h:n≠0)(Y:n<65536):F0 n=F0 (n/16)++[Db (65+n%16)]:=by
 unfold F0;show(if n=0 then[] else _)=_;rw[if_neg h,Wn 98 99 (n/16) (M4 (Ah (Ab (Vb _ _) (Ai Y)) (by decide)) (by decide)) (M4 (Ah (Ab (Vb _ _) (Ai Y)) (by decide)) (by decide))]
theorem Ru {n:Nat}(h:n<65536):(F0 n).length<=4:=by
 have key:∀f m,m<16^f->(apL f m).length<=f:=fun f=>by
  induction f with
  |zero=>intro m _;exact At _
  |succ f J=>
   intro m z;rw[Auk];split
   ·exact Cb _
   ·rw[As];have:=J (m/16) (by rw[Atn (by decide)];rwa[Uw] at z);simp;omega
 unfold F0;rw[Wn 99 4 n (M4 h (by decide)) (M4 h (by decide))];exact key 4 n h
theorem Adb {n:Nat}(h:n≠0)(Y:n<65536):(F0 n).getLast?=some (Db (65+n%16)):=by rw[V3 h Y];simp
theorem An7 (k:Nat)(h:k<16):(Db (65+k)).toNat=65+k:=by rw[UInt8.toNat_ofNat'];exact Nat.mod_eq_of_lt (Cv (Lr h 65) (by decide))
theorem Af8 {n:Nat}(h:n≠0)(Y:n<65536):cut none (some (-1)) (F0 n)=F0 (n/16):=by
 rw[V3 h Y];unfold cut;have:X3 none ((F0 (n/16)++[Db (65+n%16)]).length)=0:=rfl;have O:Aei (some (-1)) ((F0 (n/16)++[Db (65+n%16)]).length)=(F0 (n/16)).length:=by
  simp[Aei];try omega
 rw[this,O];simp
theorem Aut {b:Int}(h:b≠0):1<=Bu b:=by
 unfold Bu;rw[if_neg (by simpa using h)];exact A3 (Cb _)
theorem Ajq {a b:Int}(M:0<=a)(f:a<2^40)(Y:0<b)(d:b<2^40):S0 a b=true:=by
 have O:=Ag7 (Co Y) d;have C:=Aut (F9 Y);unfold S0 W5;rw[A0];refine⟨decide_eq_true Y,decide_eq_true ?_⟩;generalize Bu b=n at O C |-
 have hd:n*J4 a n<=80:=Ab (Bbn _ _) (Ab (Dy _ _) (Ax (Ag7 M f) O));exact⟨M,D7.mpr C,D7.mpr (Ab O (by decide)),Ab hd (by decide),Ab (N8 _ C) (Ab hd (by decide))⟩
theorem A68:∀(n:Nat) (x:PV),okF n x=true->x.py.canLay0=true:=fun n=>by
 induction n with
 |zero=>
  intro x h;cases x with
  |str z=>exact h
  |none=>rfl
  |bool=>rfl
  |int=>rfl
  |_=>exact nomatch (show false=true from h)
 |succ n J=>
  have L:∀l:List PV,l.all (okF n)=true->Gs (PV.pys l)=true:=fun l=>by
   induction l with
   |nil=>exact fun _=>rfl
   |cons x l il=>
    intro h;rw[Fw,A0] at h;show(x.py.canLay0&&Gs (PV.pys l))=true;rw[J x h.1,il h.2];rfl
  intro x h;cases x with
  |str z=>exact h
  |none=>rfl
  |bool=>rfl
  |int=>rfl
  |tuple l=>exact L l h
  |list l=>exact L l h
  |_=>exact nomatch (show false=true from h)
theorem A5w {l:List PV}(h:okF 8 (.list l)=true):eqP (.list l) (.list l)=some true:=by
 show(if okF 8 (.list l)=true/\okF 8 (.list l)=true then some ((PV.list l).py.eqv (PV.list l).py) else none)=some true;rw[if_pos ⟨h,h⟩,SeqAt.eqv_refl _ (A68 8 _ h)]
section
variable {Z:Mu}
theorem Ti {a b:Int}:Fg (.p (.int a)) (.p (.int b)) Z=some (.p (.int (a+b)),Z):=rfl
theorem Kd {a b:Str}(h:a.length+b.length<=16777216):Fg (.p (.str a)) (.p (.str b)) Z=some (.p (.str (a++b)),Z):=if_pos h
theorem Amc {a b:List PV}(h:a.length+b.length<=16777216):Fg (.p (.list a)) (.p (.list b)) Z=some (.p (.list (a++b)),Z):=if_pos h
theorem Y4 {a b:Int}:i2 Us (.p (.int a)) (.p (.int b)) Z=some (.p (.int (a-b)),Z):=rfl
theorem Jd {a b:Nat}{b':Int}(e:b'=(b:Int))(h:b≠0):i2 Jp (.p (.int (a:Int))) (.p (.int b')) Z=some (.p (.int ((a%b:Nat):Int)),Z):=by
 subst e;exact Is (Bca a b h)
theorem Tm {a b:Nat}{b':Int}(e:b'=(b:Int))(h:b≠0)(Y:b<2^900):i2 Nu (.p (.int (a:Int))) (.p (.int b')) Z=some (.p (.int ((a/b:Nat):Int)),Z):=by
 subst e;exact Is (Bb4 a b h Y)
theorem Qz {a b:Int}(h:a.natAbs<2^900)(h':b.natAbs<2^900):Sa (.p (.int a)) (.p (.int b)) Z=some (.p (.int (a*b)),Z):=Is (Bcb h h')
theorem To {a b:Int}:eqF (.p (.int a)) (.p (.int b)) Z=some (.p (.bool (a==b)),Z):=rfl
theorem Avh {a b:Str}:eqF (.p (.str a)) (.p (.str b)) Z=some (.p (.bool (a==b)),Z):=rfl
theorem A3x {a b:Array UInt8}:eqF (.p (.bytes a)) (.p (.bytes b)) Z=some (.p (.bool (a.toList==b.toList)),Z):=rfl
theorem A3y {l:List PV}(h:okF 8 (.list l)=true):eqF (.p (.list l)) (.p (.list l)) Z=some (.p (.bool true),Z):=Is (A5w h)
theorem Bau {a:Str}(h:a.length<2^62):Tw [.p (.str a)] Z=some (.p (.int a.length),Z):=if_pos h
theorem Aca {i:Nat}{l:List PV}(h:Z[i]?=some (some (.lst l)))(N:l.length<=16384):Tw [.mu i] Z=some (.p (.int l.length),Z):=show A6m (.mu i) Z=_ from Gh (Qy h) (if_pos N)
theorem Zn {a:Int}:Ku (.p (.int a)) Z=some (.p (.int (-a)),Z):=rfl
theorem Ml {b:Bool}:Y5 (.p (.bool b))=some b:=rfl
theorem Ars {a b:PV}:mkTup [.p a,.p b]=.p (.tuple [a,b]):=rfl
theorem Z4 {i:Nat}{l:List PV}(h:Z[i]?=some (some (.lst l))):Y6 "list" Z (.mu i)=true:=An6 h
theorem Ui {a:Int}(h:a.natAbs<2^30):0<=U7 a/\U7 a<2^40:=match a,h with
 | .ofNat n,h=>⟨By n,E3.mpr (Cv h (by decide))⟩
 | .negSucc n,h=>by
  have e:U7 (.negSucc n)=(n:Int):=(if_pos (Int.negSucc_lt_zero n)).trans (show((n:Int)+1)-1=n from A2y _ _);rw[e];exact⟨By n,E3.mpr (Cv (A4o h) (by decide))⟩
theorem A59 {a b:Int}(Y:0<b)(d:b<2^30)(h:a.natAbs<2^30):fcF Pn [.p (.int a),.p (.int b)] Z=some (.p (.tuple [.int (a/b),.int (a%b)]),Z):=Is (Is (x:=Apn a b) ((if_pos Y).trans (if_pos (Ajq (Ui h).1 (Ui h).2 Y (N4 d (by decide))))))
theorem A58 {a b:Int}(Y:b<0)(d: -b<2^30)(h:a.natAbs<2^30):fcF Pn [.p (.int a),.p (.int b)] Z=some (.p (.tuple [.int ((-a)/(-b)),.int (-((-a)%(-b)))]),Z):=Is (Is (x:=Apn a b) ((if_neg (K8.mpr (Co Y))).trans ((if_pos Y).trans (if_pos (Ajq (Ui (by rw[N5];exact h)).1 (Ui (by rw[N5];exact h)).2 (Int.neg_pos_of_neg Y) (N4 d (by decide)))))))
theorem A5d {a:Int}{n:Nat}(e:a.natAbs=n)(h:n<65536):fcF O5 [.p (.int a)] Z=some (.p (Ej n),Z):=by
 subst e;exact Is (if_pos (M4 h (by decide)))
theorem A6e {l:List PV}:Kp Z (.p (.tuple l))=some (l.map .p):=rfl
theorem Ba6 {a:Nat}(h:a<2^900):A7k [.p (.int (a:Int))] Z=some (.p (.str (oS (Kz (a:Int)))),Z):=Is (if_pos (Aht h))
theorem Bao {x:Str}{n:Int}(h:PySem.intText? x=some n)(N:x.length<=640):A06 [.p (.str x)] Z=some (.p (.int n),Z):=Gh h (if_pos N)
end
theorem Wq {f:MV->MV->Mu->Option (MV×Mu)}{a b:EM}{V:Sl}{Z:Mu}{x y:MV}(M:a V Z=some (x,Z))(Y:b V Z=some (y,Z)):bE f a b V Z=f x y Z:=Du M Y rfl
end
section
noncomputable def qOf (cell v:Nat):Str×Int:=Iv.getD (cell%6+3*v-3) (oS "",0)
noncomputable def Pt:List PV:=Iv.map fun q=>.str q.1
noncomputable def Q3:List PV:=Iv.map fun q=>.int q.2
theorem Q0 (cell:Nat){v:Nat}(U:1<=v)(G:v<=4):qOf cell v∈Iv:=by
 unfold qOf;rw[B7,Bx (show cell%6+3*v-3<Iv.length by show _<15;exact Ah (Go (Ax (Ai (Cr _ (by decide))) (Au _ G)) _) (by decide))];exact S9 _
theorem Aco (cell:Nat){v:Nat}(U:1<=v)(G:v<=4):Pt[cell%6+3*v-3]?=some (.str (qOf cell v).1):=by
 unfold qOf Pt;rw[B0,B7,Bx (show cell%6+3*v-3<Iv.length from Auo cell G)];rfl
theorem Anj (cell:Nat){v:Nat}(U:1<=v)(G:v<=4):Q3[cell%6+3*v-3]?=some (.int (qOf cell v).2):=by
 unfold qOf Q3;rw[B0,B7,Bx (show cell%6+3*v-3<Iv.length from Auo cell G)];rfl
noncomputable def Ao (p:Nat->Nat):List PV:=L5 fun v=>.int (p v:Nat)
noncomputable def Ap (p:Nat->Nat):List PV:=L5 fun v=>Ej (p v)
noncomputable def A9 (t:Nat->Nat):List PV:=L5 fun v=>.str (Pw (t v))
noncomputable def A8 (m:List Nat):List PV:=m.map fun v=>.int (v:Nat)
noncomputable def tkF (m:List Nat)(n cell first fac fl:Nat)(due:List PV)(x:List (Option MV)):Sl:=
 some (.p (.list (A8 m)))::some (.mu n)::some (.mu (n+1))::some (.mu (n+2))::some (.mu (n+3))::some (.p (.int (cell:Nat)))::some (.p (.tuple Pt))::some (.p (.tuple Q3))::some (.p (.int (first:Nat)))::some (.p (.int (fac:Nat)))::some (.mu fl)::some (.p (.list due))::some (.p (.bool true))::x
section
variable {m:List Nat}{cell first fac v:Nat}{due:List PV}{Z0z:Mu}{P W R K:List PV}{rest:Mu}{F:List PV}
variable {x13 x14 x15 x16 x17 x18 x19 x20 x21 x22:Option MV}{y:List (Option MV)}
theorem A7m (U:1<=v)(G:v<=4){t:Nat->Nat}(Y:t v<4){fl:Nat}:
  Axv (tkF m Z0z.length cell first fac fl due (some (.p (.int (v:Nat)))::x14::x15::y)) (Mm Z0z P W (A9 t) K rest)=
   some (.next,tkF m Z0z.length cell first fac fl due (some (.p (.int (v:Nat)))::some (.p (.int (cell%6+3*v-3:Nat)))::some (.p (.int (t v:Nat)))::y),Mm Z0z P W (A9 t) K rest):=by
 have D:D6 (.mu (Z0z.length+2)) (.p (.int (v:Int))) (Mm Z0z P W (A9 t) K rest)=some (.p (.str (Pw (t v))),Mm Z0z P W (A9 t) K rest):=
  Pm (Azh ..) (On _) (Of _ (Ah (by assumption) (by decide)))
 have N:((cell%6:Nat):Int)+3*(v:Int)-3=((cell%6+3*v-3:Nat):Int):=Aot (a:=cell%6+3*v) (b:=3) (Ab (Au 3 U) (Br _ _));have r:((Pw (t v)).length:Int)-1=(t v:Int):=by rw[Nz];exact Oc (Aot (Br _ _)) rfl
 have d:(Pw (t v)).length<2^62:=by rw[Nz];exact Ah (A3 (Ai Y)) (by decide)
 unfold Axv;apply Fu (Sh (Bz (Du (Du (Du rfl rfl ?_) (Du rfl rfl ?_) ?_) rfl ?_) (Bz (Du (Ju (Bz (Du rfl rfl ?_) rfl) ?_) rfl ?_) rfl)) ?_ rfl) ?_<;>first|exact Cg|exact Jd (b:=6) (b':=6) rfl (by decide)|exact D|exact N|exact r|exact Bau d|exact Qz (a:=3) (b:=(v:Int)) (by decide) (by rw[Dw];exact Ah G (by decide))|exact congrArg (fun z=>some (MV.p (PV.int z),_)) D|exact congrArg (fun z=>some (MV.p (PV.int z),_)) N|exact congrArg (fun z=>some (MV.p (PV.int z),_)) r|rfl|exact Ee rfl|decide|skip
theorem Aki:∀q∈Iv,q.1.length<=5:=by decide+kernel
theorem A0i:∀n<(4:Nat),(oS (Kz ((n:Nat):Int))).length<=2:=by decide+kernel
theorem A7n (U:1<=v)(G:v<=4){t:Nat}(Y:t<4)(hF:F.length<=10):
  Axw (tkF m Z0z.length cell first fac (Z0z.length+4+rest.length) due (x13::some (.p (.int (cell%6+3*v-3:Nat)))::some (.p (.int (t:Nat)))::y)) (Mm Z0z P W R K (rest++[some (.lst F)]))=
   some (.next,tkF m Z0z.length cell first fac (Z0z.length+4+rest.length) due (x13::some (.p (.int (cell%6+3*v-3:Nat)))::some (.p (.int (t:Nat)))::y),Mm Z0z P W R K (rest++[some (.lst (F++[.str (Mk (qOf cell v) t)]))])):=by
 have g:=Aki _ (Q0 cell U G);have s:=A0i t Y;have h:(oS ".").length=1:=rfl;have o:((qOf cell v).1++oS ".").length=(qOf cell v).1.length+1:=C5 ..;unfold Axw tkF;simp only[H5,Ak,Bk,bE,vE,kE,Cm,Gq,qe,qf,qc,qd,reduceIte,Z4 (Pa ..),R9 (show Pt.length<=16777216 by decide) (Aco cell U G),
  Kd (show(qOf cell v).1.length+(oS ".").length≤16777216 from(Ab (A3 g) (by decide))),
  Kd (show((qOf cell v).1++oS ".").length+(oS (Kz (t:Int))).length≤16777216 from(Ab (Ax (Ab (Aj o) (Ab (Aj (Eq.symm o)) (Ab (Aj o) (A3 g)))) s) (by decide))),
  Ba6 (show t<2^900 from Cv Y (by decide)),Yd (Pa ..) (show F.length<=16777216 from(Ab hF (by decide))),Aaw]
 simp[Mk,Vk]
theorem A7o (U:1<=v)(G:v<=4){t:Nat}{Z:Mu}{n fl:Nat}(hd:due.length<=100):
  Axx (tkF m n cell first fac fl due (x13::some (.p (.int (cell%6+3*v-3:Nat)))::some (.p (.int (t:Nat)))::y)) Z=
   some (.next,tkF m n cell first fac fl (due++M0 (qOf cell v,t)) (x13::some (.p (.int (cell%6+3*v-3:Nat)))::some (.p (.int (t:Nat)))::y),Z):=by
 have j:=Acp _ (Q0 cell U G);have e:∀Z:Mu,D6 (.p (.tuple Q3)) (.p (.int ((cell%6+3*v-3:Nat):Int))) Z=some (.p (.int (qOf cell v).2),Z):=fun Z=>R9 (by decide) (Anj cell U G);have B:∀Z:Mu,D6 (.p (.tuple Pt)) (.p (.int ((cell%6+3*v-3:Nat):Int))) Z=some (.p (.str (qOf cell v).1),Z):=fun Z=>R9 (by decide) (Aco cell U G);have g:=Aki _ (Q0 cell U G);unfold Axx tkF;cases H:PySem.intText? (qOf cell v).1 with
 |none=>
  rw[H] at j;have j:((qOf cell v).2==100)=false:=j.symm;simp only[Cp,Ak,Bk,bE,vE,kE,iE,tB,Cm,Bc,qe,qf,qc,qd,To,Ml,qi,qj,qg,qh,Nat.reduceAdd,Nat.reduceLeDiff,reduceIte,Cg,Kf,Kg,Mr,Ch,e,B,j];rw[Amc (by simp only[qi,qj];exact Ab (Bp hd _) (by decide))];simp[M0,Kv,H]
 |some n=>
  rw[H] at j;have j:((qOf cell v).2==100)=true:=j.symm;have a:(qOf cell v).2=100:=by simpa using j
  simp only[Cp,Ak,Bk,bE,vE,kE,iE,tB,Cm,Bc,qe,qf,qc,qd,To,Ml,qi,qj,qg,qh,Nat.reduceAdd,Nat.reduceLeDiff,reduceIte,Cg,Kf,Kg,Mr,e,B,j,Bao H (show(qOf cell v).1.length<=640 from(Ab g (by decide)))];rw[Amc (by simp only[qi,qj];exact Ab (Bp hd _) (by decide))];simp[M0,Kv,H,a]
theorem A7p (U:1<=v)(G:v<=4){p:Nat->Nat}{n fl:Nat}(I:p v<65536)(O:fac≠0)(o:fac<=7)(f:n=Z0z.length):
  Axy (tkF m n cell first fac fl due (some (.p (.int (v:Nat)))::x14::x15::x16::x17::y)) (Mm Z0z (Ao p) W R K rest)=
   some (.next,tkF m n cell first fac fl due (some (.p (.int (v:Nat)))::x14::x15::some (.p (.int ((p v:Int)*fac+(cell%fac:Nat))))::some (.p (.int (16*(fac:Int))))::y),Mm Z0z (Ao p) W R K rest):=by
 subst f;have D:D6 (.mu Z0z.length) (.p (.int (v:Int))) (Mm Z0z (Ao p) W R K rest)=some (.p (.int (p v:Nat)),Mm Z0z (Ao p) W R K rest):=
  Pm (Azg ..) (On _) (Of _ (Ah (by assumption) (by decide)))
 unfold Axy;apply Fu (Sh (Bz (Du (Du (Du rfl rfl ?_) rfl ?_) (Du rfl rfl ?_) ?_) (Bz (Du rfl rfl ?_) rfl)) ?_ rfl) ?_<;>first|exact Cg|exact Jd rfl O|exact D|exact Qz (a:=(p v:Int)) (b:=(fac:Int)) (by rw[Dw];exact Cv I (by decide)) (by rw[Dw];exact Ah o (by decide))|exact Qz (a:=16) (b:=(fac:Int)) (by decide) (by rw[Dw];exact Ah o (by decide))|exact congrArg (fun z=>some (MV.p (PV.int z),_)) D|rfl|exact Ee rfl|decide|skip
noncomputable def P0 (p:Nat->Nat)(v x:Nat):Nat->Nat:=fun i=>if i=v then x else p i
theorem Afz (p:Nat->Nat){v:Nat}(h:v<5)(x:Nat):(Ao p).set v (.int (x:Nat))=Ao (P0 p v x):=by
 unfold Ao;rw[Al1 _ h];congr 1;funext i;unfold P0;split<;>rfl
theorem Aso (p:Nat->Nat){v:Nat}(h:v<5)(x:Nat):(Ap p).set v (Ej x)=Ap (P0 p v x):=by
 unfold Ap;rw[Al1 _ h];congr 1;funext i;unfold P0;split<;>rfl
theorem Axb (p:Nat->Nat){v:Nat}(h:v<5)(x:Nat):(A9 p).set v (.str (Pw x))=A9 (P0 p v x):=by
 unfold A9;rw[Al1 _ h];congr 1;funext i;unfold P0;split<;>rfl
theorem A0q {p f c:Nat}(O:f≠0)(L:c<f):((p:Int)*f+c)/(16*f)=(p/16:Nat)/\((p:Int)*f+c)%(16*f)=(p%16:Nat)*(f:Int)+c/\
  (-((p:Int)*f+c)-1)/(16*f)= -1-(p/16:Nat)/\(-((p:Int)*f+c)-1)%(16*f)=16*f-1-((p%16:Nat)*(f:Int)+c):=by
 have e:(p:Int)=16*(p/16:Nat)+(p%16:Nat):=congrArg Int.ofNat (Aih p 16).symm;have h:(0:Int)<=(p%16:Nat)*(f:Int):=Xu (By _) (By _);have j:((p%16:Nat):Int)*f<=15*f:=Jk (Amh (Ai (Cr _ (by decide)))) (By _);have d:(p:Int)*f=(16*f)*(p/16:Nat)+(p%16:Nat)*f:=by
  rw[e,Sw]
  congr 1
  rw[O9,O9];congr 1;exact J5 _ _
 have m:((p%16:Nat):Int)*f+c<16*f:=D9 (Int.add_lt_add_of_le_of_lt j (E3.mpr L)) (Int.le_of_eq (show 15*(f:Int)+f=16*f by rw[show(16:Int)=15+1 from rfl,Sw,Fs]));have v:=(Ayf (a:=(p:Int)*f+c) (b:=16*f) (q:=(p/16:Nat)) (r:=(p%16:Nat)*(f:Int)+c) (by lia)).mpr ⟨by rw[d];exact Oc (I5 _ _) (Eq.symm (S6 _ _ _)),K6 h (By c),m⟩;have k:=(Ayf (a:= -((p:Int)*f+c)-1) (b:=16*f) (q:= -1-(p/16:Nat)) (r:=16*f-1-((p%16:Nat)*(f:Int)+c)) (by lia)).mpr ⟨by
  rw[d,Int.mul_sub];exact A9v _ _ _ _,Ayj (Ayg m),Im (A81 _ (K6 h (By c))) (A82 _ (by decide))⟩
 exact⟨v.1,v.2,k.1,k.2⟩
noncomputable def Pq:Nat->Int×Int×Int
 |0=>(1,0,1)|1=>(-1,0, -1)|2=>(-1, -1,1)|_=>(1,1, -1)
noncomputable def Ap0 (k:Nat):PV:=.tuple [.int (Pq k).1,.int (Pq k).2.1,.int (Pq k).2.2]
theorem A7q {fl:Nat}{Z:Mu}(L:Z[Z0z.length+3]?=some (some (.lst K)))(u:K.length<=1000):
  Aqg (tkF m Z0z.length cell first fac fl due (some (.p (.int (v:Nat)))::x14::x15::x16::x17::x18::x19::x20::y)) Z=
   some (.next,tkF m Z0z.length cell first fac fl due (some (.p (.int (v:Nat)))::x14::x15::x16::x17::some (.p (.int (Pq ((cell+K.length+v)%4)).1))::some (.p (.int (Pq ((cell+K.length+v)%4)).2.1))::some (.p (.int (Pq ((cell+K.length+v)%4)).2.2))::y),Z):=by
 have i:(cell:Int)+(K.length:Int)+(v:Int)=((cell+K.length+v:Nat):Int):=rfl;have M:([.tuple [.int 1,.int 0,.int 1],.tuple [.int (-1),.int 0,.int (-1)],.tuple [.int (-1),.int (-1),.int 1],.tuple [.int 1,.int 1,.int (-1)]]:List PV)[(cell+K.length+v)%4]?=some (Ap0 ((cell+K.length+v)%4)):=by
  have:∀k<4,([.tuple [.int 1,.int 0,.int 1],.tuple [.int (-1),.int 0,.int (-1)],.tuple [.int (-1),.int (-1),.int 1],.tuple [.int 1,.int 1,.int (-1)]]:List PV)[k]?=some (Ap0 k):=fun k hk=>by
   have:k=0\/k=1\/k=2\/k=3:=(A3t hk);rcases this with rfl|rfl|rfl|rfl<;>rfl
  exact this _ (Cr _ (by decide))
 unfold Aqg;apply Fu (Du (Sh (Bz (Sh (Bz rfl (Bz rfl (Bz rfl rfl))) ?_ rfl) (Bz (Sh (Bz (Alc rfl ?_) (Bz rfl (Bz (Alc rfl ?_) rfl))) ?_ rfl) (Bz (Sh (Bz (Alc rfl ?_) (Bz (Alc rfl ?_) (Bz rfl rfl))) ?_ rfl) (Bz (Sh (Bz rfl (Bz rfl (Bz (Alc rfl ?_) rfl))) ?_ rfl) rfl)))) ?_ rfl) (Du (Du (Du rfl (Ju (Bz rfl rfl) ?_) ?_) rfl ?_) rfl ?_) ?_) ?_<;>first|exact Cg|exact Aca L (show K.length<=16384 from(Ab u (by decide)))|exact i|exact Jd (b:=4) (b':=4) rfl (by decide)|exact R9 (by decide) M|exact Ap0|exact congrArg (fun z=>some (MV.p (PV.int z),_)) i|exact congrArg (fun z=>some (MV.p (PV.int z),_)) Ap0|rfl|exact Ee rfl|decide|skip
theorem A7r {fl:Nat}{Z:Mu}{N U:Int}{a b c:Int}{n:Nat}(M:a.natAbs<=1)(L:c.natAbs<=1)(j:N.natAbs<2^100)(p:U.natAbs<2^100){t:PV}(d:fcF Pn [.p (.int (a*N+b)),.p (.int (c*U))] Z=some (.p t,Z)):
  Aqh (tkF m n cell first fac fl due (x13::x14::x15::some (.p (.int N))::some (.p (.int U))::some (.p (.int a))::some (.p (.int b))::some (.p (.int c))::x21::y)) Z=
   some (.next,tkF m n cell first fac fl due (x13::x14::x15::some (.p (.int N))::some (.p (.int U))::some (.p (.int a))::some (.p (.int b))::some (.p (.int c))::some (.p t)::y),Z):=by
 have g:a.natAbs<2^900:=Ah M (by decide);have s:c.natAbs<2^900:=Ah L (by decide);have h:N.natAbs<2^900:=Cv j (by decide);have o:U.natAbs<2^900:=Cv p (by decide);unfold Aqh;apply Fu (Ju (Bz (Du (Du rfl rfl ?_) rfl ?_) (Bz (Du rfl rfl ?_) rfl)) ?_) rfl<;>first|exact congrArg (fun z=>some (MV.p (PV.int z),_)) d|exact Qz g h|exact Qz s o|exact d|rfl|exact Ee rfl|decide|skip
theorem A7s (G:v<=4){p:Nat->Nat}{fl:Nat}{N U:Int}{a b c q r:Int}{z:Nat}{w:Int}(L:c.natAbs<=1)(d:r.natAbs<2^100)
  (hz:(if b=0 then q else -1-q)=(z:Int))(B:(if b=0 then c*r else U-1-c*r)=w):
  Aqi (tkF m Z0z.length cell first fac fl due (some (.p (.int (v:Nat)))::x14::x15::some (.p (.int N))::some (.p (.int U))::some (.p (.int a))::some (.p (.int b))::some (.p (.int c))::some (.p (.tuple [.int q,.int r]))::x22::y)) (Mm Z0z (Ao p) W R K rest)=
   some (.next,tkF m Z0z.length cell first fac fl due (some (.p (.int (v:Nat)))::x14::x15::some (.p (.int N))::some (.p (.int U))::some (.p (.int a))::some (.p (.int b))::some (.p (.int c))::some (.p (.tuple [.int q,.int r]))::some (.p (.int w))::y),Mm Z0z (Ao (P0 p v z)) W R K rest):=by
 have s:c.natAbs<2^900:=Ah L (by decide);have h:r.natAbs<2^900:=Cv d (by decide);have E:v<(Ao p).length:=by show v<5;exact Ah G (by decide)
 have f:∀Z:Mu,D6 (.p (.tuple [.int q,.int r])) (.p (.int 0)) Z=some (.p (.int q),Z):=fun Z=>R9 (j:=0) (show 2<=16777216 by decide) rfl;have g:∀Z:Mu,D6 (.p (.tuple [.int q,.int r])) (.p (.int 1)) Z=some (.p (.int r),Z):=fun Z=>R9 (j:=1) (show 2<=16777216 by decide) rfl;unfold Aqi tkF;have e:(b==0)=decide (b=0):=rfl;by_cases Y:b=0
 ·rw[if_pos Y] at hz B;subst hz B;simp only[Cp,It,Ak,Bk,bE,uE,vE,kE,iE,tB,T3,Gi,Rl,Bc,qe,qf,qc,qd,Y4,To,Zn,Ml,Ars,A6e,qi,qj,qk,ql,Nat.reduceAdd,Nat.reduceLeDiff,reduceIte,Cg,f,g,Qz s h,e,decide_eq_true Y];rw[Ah4 (a:=vE 1) (b:=vE 13) (i:=Z0z.length) (j:=v) (l:=Ao p)]
  ·simp only[qc,qd,qg,qh,A3h,Afz p (show v<5 by assumption)]
  ·rfl
  ·rfl
  ·exact(Azg Z0z (Ao p) W R K rest)
  ·exact On _
  ·exact E
 ·rw[if_neg Y] at hz B;subst B;simp only[Cp,It,Ak,Bk,bE,uE,vE,kE,iE,tB,T3,Gi,Rl,Bc,qe,qf,qc,qd,Y4,To,Zn,Ml,Ars,A6e,qi,qj,qk,ql,Nat.reduceAdd,Nat.reduceLeDiff,reduceIte,Cg,Ch,f,g,Qz s h,e,decide_eq_false Y,hz];rw[Ah4 (a:=vE 1) (b:=vE 13) (i:=Z0z.length) (j:=v) (l:=Ao p)]
  ·simp only[qc,qd,qg,qh,A3h,Afz p (show v<5 by assumption)]
  ·rfl
  ·rfl
  ·exact(Azg Z0z (Ao p) W R K rest)
  ·exact On _
  ·exact E
theorem Awp {m:Nat}(h:m<4){N U r:Int}{q:Nat}(s:N.natAbs<2^20)(y:U.natAbs<2^20)(d:0<=r)(o:r<U)(w:N/U=q)(c:N%U=r)(g:(-N-1)/U= -1-q)(l:(-N-1)%U=U-1-r)(Z:Mu):
  ∃t n:Int,fcF Pn [.p (.int ((Pq m).1*N+(Pq m).2.1)),.p (.int ((Pq m).2.2*U))] Z=some (.p (.tuple [.int t,.int n]),Z)/\n.natAbs<2^100/\(if(Pq m).2.1=0 then t else -1-t)=(q:Int)/\(if(Pq m).2.1=0 then(Pq m).2.2*n else U-1-(Pq m).2.2*n)=r:=by
 have z:m=0\/m=1\/m=2\/m=3:=by clear w c g l s y d o;exact A3t h
 have p:0<U:=Im d o;have f:U<2^30:=Im Int.le_natAbs (D9 (E3.mpr y) (by decide));have B:r.natAbs<2^100:=Aun d (N4 o (D9 f (by decide)));have v:(U-1-r).natAbs<2^100:=Aun (Ayj (Ayg o)) (Im (A81 (U-1) d) (N4 (A82 U (by decide)) (D9 f (by decide))));have j:(-N-1).natAbs<2^30:=Ah (Int.natAbs_sub_le (-N) 1) (by rw[N5];exact Ay (Ayo s 1) (by decide));have i:∀x:Int,x.natAbs<2^100->(-x).natAbs<2^100:=fun x h=>by rwa[N5]
 have A:(1:Int)*U=U:=Fs U;have k: -1*U= -U:=by rw[Ayi,Fs]
 have u:N.natAbs<2^30:=Cv s (by decide);have I:∀a:Int,a.natAbs<2^30->fcF Pn [.p (.int a),.p (.int (1*U))] Z=some (.p (.tuple [.int (a/U),.int (a%U)]),Z):=fun a M=>by rw[A];exact A59 p f M
 have K:∀a:Int,a.natAbs<2^30->fcF Pn [.p (.int (-a)),.p (.int (-1*U))] Z=some (.p (.tuple [.int (a/U),.int (-(a%U))]),Z):=fun a M=>by
  have:=A58 (Z:=Z) (a:= -a) (b:= -U) (Int.neg_neg_of_pos p) (by rw[Xv];exact f) (by rw[N5];exact M);rw[k];rwa[Xv,Xv] at this
 rcases z with rfl|rfl|rfl|rfl
 ·refine exi2 _ _ ⟨I (1*N+0) (by rwa[Fs,N3]),?_,?_,?_⟩
  ·rwa[Fs,N3,c]
  ·rw[Fs,N3];exact(if_pos rfl).trans w
  ·rw[Fs,N3];exact(if_pos rfl).trans ((Fs _).trans c)
 ·have e: -1*N+0= -N:=by rw[Ayi,Fs,N3]
  refine exi2 _ _ ⟨(congrArg (fun a=>fcF Pn [.p (.int a),.p (.int (-1*U))] Z) e).trans (K N u),?_,(if_pos rfl).trans w,(if_pos rfl).trans ?_⟩
  ·rw[c];exact i _ B
  ·rw[c];exact(A80 1 r).trans (Fs r)
 ·have e: -1*N+ -1= -N-1:=by rw[Ayi,Fs];rfl
  refine exi2 _ _ ⟨(congrArg (fun a=>fcF Pn [.p (.int a),.p (.int (1*U))] Z) e).trans (I (-N-1) ?_),?_,(if_neg (by decide)).trans ?_,(if_neg (by decide)).trans ?_⟩
  ·exact j
  ·rwa[l]
  ·rw[g];exact T6 _ _
  ·show U-1-1*((-N-1)%U)=r;rw[l,Fs];exact T6 _ _
 ·have e:1*N+1= -(-N-1):=by rw[Fs,Int.neg_sub,Int.sub_neg,I5]
  refine exi2 _ _ ⟨(congrArg (fun a=>fcF Pn [.p (.int a),.p (.int (-1*U))] Z) e).trans (K (-N-1) ?_),?_,(if_neg (by decide)).trans ?_,(if_neg (by decide)).trans ?_⟩
  ·exact j
  ·rw[l];exact i _ v
  ·rw[g];exact T6 _ _
  ·show U-1- -1* -((-N-1)%U)=r;rw[l,A80,Fs];exact T6 _ _
theorem Acg (k:Nat):(Pq k).1.natAbs<=1/\(Pq k).2.2.natAbs<=1:=match k with
 |0=>by decide
 |1=>by decide
 |2=>by decide
 |_+3=>⟨At 1,At 1⟩
theorem Ane {p f c:Nat}(I:p<65536)(u:f≠0)(o:f<=7)(L:c<f):((p:Int)*f+c).natAbs<2^20/\(16*(f:Int)).natAbs<2^20/\0<=(p%16:Nat)*(f:Int)+c/\(p%16:Nat)*(f:Int)+c<16*f:=by
 have U:p*f<=65536*7:=Xw (Ba I) o;have O:(p%16)*f<=15*f:=Gn _ (Ai (Cr _ (by decide)));rw[<-Aif,<-Aif];generalize p*f=x at U;generalize (p%16)*f=y at O;exact⟨Ah (Aj (Dw (x+c))) (Ah (Ax U (Ab (Ba L) o)) (by decide)),Ah (Aj (Dw (16*f))) (Ah (Au 16 o) (by decide)),By (y+c),E3.mpr (Ay (Rw O L) (Aj (Nat.succ_mul 15 f).symm))⟩
theorem A2a (U:1<=v)(G:v<=4){p:Nat->Nat}{fl:Nat}(I:p v<65536)(O:fac≠0)(o:fac<=7)(u:K.length<=1000):
  ∃j f q z,∀r:SM,B5 Aqg (B5 Aqh (B5 Aqi r)) (tkF m Z0z.length cell first fac fl due (some (.p (.int (v:Nat)))::x14::x15::some (.p (.int ((p v:Int)*fac+(cell%fac:Nat))))::some (.p (.int (16*(fac:Int))))::x18::x19::x20::x21::x22::y)) (Mm Z0z (Ao p) W R K rest)=
   r (tkF m Z0z.length cell first fac fl due (some (.p (.int (v:Nat)))::x14::x15::some (.p (.int ((p v:Int)*fac+(cell%fac:Nat))))::some (.p (.int (16*(fac:Int))))::j::f::q::z::some (.p (.int ((p v%16:Nat)*(fac:Int)+(cell%fac:Nat))))::y)) (Mm Z0z (Ao (P0 p v (p v/16))) W R K rest):=by
 have L:cell%fac<fac:=Cr _ (Ha O);have D:=A0q (p:=p v) O L;have B:=Ane I O o L;have h:=Cr (cell+K.length+v) (show 0<4 by decide);refine Aa fun C=>?_;refine exe2 (Awp h B.1 B.2.1 B.2.2.1 B.2.2.2 D.1 D.2.1 D.2.2.1 D.2.2.2 (Mm Z0z (Ao p) W R K rest)) fun t n w=>?_;obtain⟨e,H⟩:=w;refine C ?_;have big:(2:Nat)^20<2^100:=by decide
 exact exi4 _ _ _ _ (fun k=>(Bw (A7q (Al2 ..) u)).trans ((Bw (A7r (Acg ((cell+K.length+v)%4)).1 (Acg ((cell+K.length+v)%4)).2 (Cv B.1 big) (Cv B.2.1 big) e)).trans (Bw (A7s G (Acg ((cell+K.length+v)%4)).2 H.1 H.2.1 H.2.2))))
end
end
section
section
variable {m:List Nat}{cell first fac v:Nat}{due:List PV}{Z0z:Mu}{P W R K:List PV}{rest:Mu}{F:List PV}
variable {x13 x14 x15 x16 x17 x18 x19 x20 x21 x22:Option MV}{y:List (Option MV)}
theorem A7t (G:v<=4){p S:Nat->Nat}{fl:Nat}(h:p v≠0)(I:p v<65536)(b:S v=p v/16)(O:fac≠0)(o:fac<=7):
  Axz (tkF m Z0z.length cell first fac fl due (some (.p (.int (v:Nat)))::x14::x15::x16::x17::x18::x19::x20::x21::some (.p (.int ((p v%16:Nat)*(fac:Int)+(cell%fac:Nat))))::y)) (Mm Z0z (Ao S) (Ap p) R K rest)=
   some (.next,tkF m Z0z.length cell first fac fl due (some (.p (.int (v:Nat)))::x14::x15::x16::x17::x18::x19::x20::x21::some (.p (.int ((p v%16:Nat)*(fac:Int)+(cell%fac:Nat))))::y),Mm Z0z (Ao S) (Ap p) R K rest):=by
 have e:D6 (.mu (Z0z.length+1)) (.p (.int (v:Int))) (Mm Z0z (Ao S) (Ap p) R K rest)=some (.p (Ej (p v)),Mm Z0z (Ao S) (Ap p) R K rest):=
  Pm (Atw ..) (On _) (Of _ (Ah G (by decide)))
 have i:D6 (.mu Z0z.length) (.p (.int (v:Int))) (Mm Z0z (Ao S) (Ap p) R K rest)=some (.p (.int (S v:Nat)),Mm Z0z (Ao S) (Ap p) R K rest):=
  Pm (Azg ..) (On _) (Of _ (Ah G (by decide)))
 have d:∀Z:Mu,D6 (.p (Ej (p v))) (.p (.int (-1))) Z=some (.p (.int ((Db (65+p v%16)).toNat:Nat)),Z):=fun Z=>Apj (by have:=Ru I;exact Ab this (by decide)) (Adb h I);have a:(((Db (65+p v%16)).toNat:Nat):Int)-65=((p v%16:Nat):Int):=by rw[An7 _ (Ah (Ai (Cr _ (by decide))) (by decide))];lia
 have l:(F0 (p v)).toArray.size<=16777216:=by have:=Ru I;simp;exact Ab this (by decide)
 have c:(cut none (some (-1)) (F0 (p v))).toArray=(F0 (S v)).toArray:=by rw[Af8 h I,b]
 have q:∀Z:Mu,fcF O5 [.p (.int (-(S v:Int)))] Z=some (.p (Ej (S v)),Z):=fun Z=>A5d (A3p _) (Ah (Ab (Aj b) (Ab (Aj (Eq.symm b)) (Ab (Aj b) (Ab (Vb _ _) (Ai I))))) (by decide));have g:((p v%16:Nat):Int).natAbs<2^900:=by rw[Dw];exact Cv (show p v%16<16 from(Ah (Ai (Cr _ (by decide))) (by decide))) (by decide)
 have s:(fac:Int).natAbs<2^900:=by rw[Dw];exact Ah o (by decide)
 unfold Axz tkF;generalize L:Mm Z0z (Ao S) (Ap p) R K rest=Z at *;have P:∀x12,bE eqF (vE 22) (bE Fg (bE Sa (bE (i2 Us) (bE D6 (bE D6 (vE 2) (vE 13)) (uE Ku (kE (.int 1)))) (kE (.int 65))) (vE 9)) (bE (i2 Jp) (vE 5) (vE 9)))
   (some (.p (.list (A8 m)))::some (.mu Z0z.length)::some (.mu (Z0z.length+1))::some (.mu (Z0z.length+2))::some (.mu (Z0z.length+3))::some (.p (.int (cell:Nat)))::some (.p (.tuple Pt))::some (.p (.tuple Q3))::some (.p (.int (first:Nat)))::some (.p (.int (fac:Nat)))::some (.mu fl)::some (.p (.list due))::x12::some (.p (.int (v:Nat)))::x14::x15::x16::x17::x18::x19::x20::x21::some (.p (.int ((p v%16:Nat)*(fac:Int)+(cell%fac:Nat))))::y) Z=some (.p (.bool true),Z):=fun x12=>by
  simp only[bE,vE,uE,kE,qe,qf,qc,e,Zn,d,Y4,a,Qz g s,Jd rfl O,Ti,To,beq_self_eq_true]
 have j:∀x12,bE eqF (Cm (fcF O5) (Ak (uE Ku (bE D6 (vE 1) (vE 13))) Bk)) (slB (bE D6 (vE 2) (vE 13)) noP (atP (uE Ku (kE (.int 1)))))
   (some (.p (.list (A8 m)))::some (.mu Z0z.length)::some (.mu (Z0z.length+1))::some (.mu (Z0z.length+2))::some (.mu (Z0z.length+3))::some (.p (.int (cell:Nat)))::some (.p (.tuple Pt))::some (.p (.tuple Q3))::some (.p (.int (first:Nat)))::some (.p (.int (fac:Nat)))::some (.mu fl)::some (.p (.list due))::x12::some (.p (.int (v:Nat)))::x14::x15::x16::x17::x18::x19::x20::x21::some (.p (.int ((p v%16:Nat)*(fac:Int)+(cell%fac:Nat))))::y) Z=some (.p (.bool true),Z):=fun x12=>by
  simp only[bE,vE,uE,kE,Cm,Ak,Bk,noP,atP,slB,qe,qf,qc,i,e,Zn,q];simp only[Ej,if_pos l,c,qc,A3x,beq_self_eq_true]
 dsimp only[Cp,Z0,vE,qe,qf,qc,Ml,if_true];rw[P];simp only[qc,Ml,if_true];rw[j];dsimp only[qc,Bc,qd,qg,qh]
theorem A7u (G:v<=4){p:Nat->Nat}{fl:Nat}(h:p v≠0)(I:p v<65536):
  Ax0 (tkF m Z0z.length cell first fac fl due (some (.p (.int (v:Nat)))::y)) (Mm Z0z P (Ap p) R K rest)=
   some (.next,tkF m Z0z.length cell first fac fl due (some (.p (.int (v:Nat)))::y),Mm Z0z P (Ap (P0 p v (p v/16))) R K rest):=by
 have e:D6 (.mu (Z0z.length+1)) (.p (.int (v:Int))) (Mm Z0z P (Ap p) R K rest)=some (.p (Ej (p v)),Mm Z0z P (Ap p) R K rest):=
  Pm (Atw ..) (On _) (Of _ (by omega))
 have M:(F0 (p v)).toArray.size<=16777216:=by have:=Ru I;simp;exact Ab this (by decide)
 have c:(cut none (some (-1)) (F0 (p v))).toArray=(F0 (p v/16)).toArray:=(congrArg _ (Af8 h I));unfold Ax0 tkF;simp only[Cp,bE,uE,vE,kE,qe,qf,qc,Zn,noP,atP,e,slB,Ej,if_pos M,c];rw[Ah4 (a:=vE 2) (b:=vE 13) (i:=Z0z.length+1) (j:=v) (l:=Ap p)]
 ·have:=Aso p (show v<5 by omega) (p v/16);unfold Ej at this;simp only[qd,A9h,this]
 ·rfl
 ·rfl
 ·exact Atw ..
 ·exact On _
 ·show v<5;omega
theorem A2h (U:1<=v)(G:v<=4){p t:Nat->Nat}(h:p v≠0)(I:p v<65536)(d:t v<4)(O:fac≠0)(o:fac<=7)(u:K.length<=1000)(hF:F.length<=10)(hd:due.length<=100):
  ∃i l A b a x g c s,Ak9 (tkF m Z0z.length cell first fac (Z0z.length+4+rest.length) due (some (.p (.int (v:Nat)))::x14::x15::x16::x17::x18::x19::x20::x21::x22::y)) (Mm Z0z (Ao p) (Ap p) (A9 t) K (rest++[some (.lst F)]))=
   some (.next,tkF m Z0z.length cell first fac (Z0z.length+4+rest.length) (due++M0 (qOf cell v,t v)) (some (.p (.int (v:Nat)))::i::l::A::b::a::x::g::c::s::y),Mm Z0z (Ao (P0 p v (p v/16))) (Ap (P0 p v (p v/16))) (A9 t) K (rest++[some (.lst (F++[.str (Mk (qOf cell v) (t v))]))])):=by
 unfold Ak9;rw[Bw (A7m U G d),Bw (A7n U G d hF),Bw (A7o U G hd),Bw (A7p U G I O o rfl)];refine Aa fun C=>?_;obtain⟨j,f,q,z,e⟩:=A2a (Z0z:=Z0z) (m:=m) (cell:=cell) (first:=first) (due:=due++M0 (qOf cell v,t v)) (W:=Ap p) (R:=A9 t) (K:=K) (rest:=rest++[some (.lst (F++[.str (Mk (qOf cell v) (t v))]))])
  (x14:=some (.p (.int (cell%6+3*v-3:Nat)))) (x15:=some (.p (.int (t v:Nat)))) (x18:=x18) (x19:=x19) (x20:=x20) (x21:=x21) (x22:=x22) (y:=y) (fl:=Z0z.length+4+rest.length) U G I O o u
 refine C ?_;rw[e];rw[Bw (A7t G h I (by unfold P0;rw[if_pos rfl]) O o),Bw (A7u G h I)];exact exi8 _ _ _ _ _ _ _ _ ⟨_,rfl⟩
theorem Ask {v:Nat}{c:List Nat}(F:v∉c)(p:Nat->Nat):Ds c (P0 p v (p v/16))=Ds (v::c) p:=by
 funext i;unfold Ds P0;by_cases e:i=v
 ·subst e;simp[F]
 ·by_cases h:i∈c<;>simp[e,h]
end
end
section
section
variable {m:List Nat}{cell first fac v:Nat}{due:List PV}{Z0z:Mu}{P W R K:List PV}{rest:Mu}{F:List PV}
variable {x13 x14 x15 x16 x17 x18 x19 x20 x21 x22:Option MV}{y:List (Option MV)}
theorem Tq {t:TM}{b:SM}{d:MV}{r:List MV}{V V1z c:Sl}{Z a μ2:Mu}(U:t V Z d=some (V1z,a))(O:b V1z a=some (.next,c,μ2)):Eo t b (d::r) V Z=Eo t b r c μ2:=by
 show((t V Z d).bind _)=_;rw[U];show((b V1z a).bind _)=_;rw[O];rfl
structure Z9 where
 (z14 z15 z16 z17 z18 z19 z20 z21 z22:Option MV)
noncomputable def Z9.sl (z:Z9)(x:Option MV)(y:List (Option MV)):List (Option MV):=x::z.z14::z.z15::z.z16::z.z17::z.z18::z.z19::z.z20::z.z21::z.z22::y
theorem Ala {t:Nat->Nat}(O:fac≠0)(o:fac<=7)(u:K.length<=1000):∀(c:List Nat) (p:Nat->Nat) (F due:List PV) (x:Option MV) (z:Z9),c.Nodup->(∀v∈c,1<=v/\v<=4/\p v≠0/\p v<65536/\t v<4)->F.length+c.length<=10->due.length+4*c.length<=100->
  ∃(g:Option MV)(h:Z9),Eo (Bc 13) Ak9 (c.map fun(v:Nat)=>.p (.int (v:Nat))) (tkF m Z0z.length cell first fac (Z0z.length+4+rest.length) due (z.sl x y)) (Mm Z0z (Ao p) (Ap p) (A9 t) K (rest++[some (.lst F)]))=
   some (.next,tkF m Z0z.length cell first fac (Z0z.length+4+rest.length) (due++c.flatMap fun v=>M0 (qOf cell v,t v)) (h.sl g y),Mm Z0z (Ao (Ds c p)) (Ap (Ds c p)) (A9 t) K (rest++[some (.lst (F++c.map fun v=>.str (Mk (qOf cell v) (t v))))]))
 |[],p,F,due,x,z,_,_,_,_=>⟨x,z,by
   have:Ds [] p=p:=by funext i;unfold Ds;simp
   simp[Amx,this]⟩
 |v::c,p,F,due,x,z,A,L,hF,hd=>by
  have b:=L v (An ..);have U:=b.1;have G:=b.2.1;have d:=C4.mp A;have f:=d.1;have N:∀q∈Iv,∀n,(M0 (q,n)).length=4:=fun q _ n=>by unfold M0 Kv;split<;>rfl
  have N:=N _ (Q0 cell U G) (t v);refine Aa fun C=>?_;refine exe8 (A2h (m:=m) (cell:=cell) (first:=first) (due:=due) (Z0z:=Z0z) (K:=K) (rest:=rest) (F:=F) (x14:=z.z14) (x15:=z.z15) (x16:=z.z16) (x17:=z.z17) (x18:=z.z18) (x19:=z.z19) (x20:=z.z20) (x21:=z.z21) (x22:=z.z22) (y:=y) U G b.2.2.1 b.2.2.2.1 b.2.2.2.2 O o u (by simp at hF;exact Bm hF) (Bm hd)) fun k I l E B s w J j=>?_;obtain⟨r,W⟩:=j;obtain⟨g,h,D⟩:=Ala O o u c (P0 p v (p v/16)) (F++[.str (Mk (qOf cell v) (t v))]) (due++M0 (qOf cell v,t v)) (some (.p (.int (v:Nat)))) ⟨k,I,l,E,B,s,w,J,r⟩ d.2
   (fun i H=>by
    have a:=L i (A4 _ H);have:P0 p v (p v/16) i=p i:=by unfold P0;rw[if_neg (fun e:i=v=>f (e▸H))]
    rw[this];exact⟨a.1,a.2.1,a.2.2.1,a.2.2.2.1,a.2.2.2.2⟩) (by simp at hF |-;exact Aba hF) (by simp[N] at hd |-;lia)
  refine C ?_;refine exi2 g h ?_;exact(Tq rfl W).trans (D.trans (by rw[Ask f];simp only[Az,Ng,qk,List.singleton_append]))
end
end
section
theorem Aaj (x:Str):∀ys:List Str,(Cs x ys).length<=(ys.map (·.length)).sum+ys.length*x.length:=by
 intro ys;rw[show Cs x ys=I7 x ys from Ka _ _];induction ys with
 |nil=>exact Cb _
 |cons a r J=>
  cases r with
  |nil=>simp[I7]
  |cons b r=>
   have:I7 x (a::b::r)=a++x++I7 x (b::r):=rfl;rw[this,C5,C5];simp only[qk,Lw,qi,Nat.add_mul,Ayq] at J |-
   exact Ab (Ar J _) (Aj ((P2 _ _ _ _).trans (congrArg _ (Cu _ _))))
theorem Aj3 (ys:List Str):(Cs (oS "") ys).cps.toList=ys.flatMap fun y=>y.cps.toList:=by
 rw[show Cs (oS "") ys=I7 (oS "") ys from Ka _ _];induction ys with
 |nil=>rfl
 |cons a r J=>
  cases r with
  |nil=>simp[I7]
  |cons b r=>
   have:I7 (oS "") (a::b::r)=a++oS ""++I7 (oS "") (b::r):=rfl;rw[this,B4,B4,Be,Be,J];show a.cps.toList++[]++_=_;rw[Ct];rfl
theorem Ah7:∀l:List Str,Ak3 (l.map PV.str)=some l
 |[]=>rfl
 |x::l=>Is (Ah7 l)
theorem Av5 {Z:Mu}{i:Nat}{x:Str}{ys:List Str}(h:Z[i]?=some (some (.lst (ys.map PV.str))))(Y:(ys.map (·.length)).sum+ys.length*x.length<=16777216):Ab9 [.p (.str x),.mu i] Z=some (.p (.str (Cs x ys)),Z):=Gh (Qy h) (Gh (Ah7 ys) (if_pos Y))
theorem Av4 {Z:Mu}{x:Str}{ys:List Str}(Y:(ys.map (·.length)).sum+ys.length*x.length<=16777216):Ab9 [.p (.str x),.p (.list (ys.map PV.str))] Z=some (.p (.str (Cs x ys)),Z):=Gh (Ah7 ys) (if_pos Y)
theorem Anl (m:List Nat):A8 m=(m.map fun(v:Nat)=>(v:Int)).map PV.int:=by unfold A8;rw[F6];rfl
theorem Aft:∀m:List Nat,Aka (m.map fun(v:Nat)=>(v:Int))=(Ny m:Int)
 |[]=>rfl
 |[a]=>rfl
 |a::b::r=>by
  show min (a:Int) (Aka ((b::r).map fun(v:Nat)=>(v:Int)))=((min a (Ny (b::r)):Nat):Int);rw[(Aft (b::r))];omega
theorem Ajz (x:Nat):∀m:List Nat,(m.map fun(v:Nat)=>(v:Int)).idxOf (x:Int)=m.idxOf x
 |[]=>rfl
 |a::r=>by
  rw[qk,A8d,A8d,(Ajz x r)];have:((a:Int)==(x:Int))=(a==x):=by
   rw[Hv,beq_iff_eq,beq_iff_eq];exact Ie
  rw[this]
theorem Aff (m:List Nat):Ts (A8 m)=some (m.map fun(v:Nat)=>(v:Int)):=by rw[Anl,Uf]
theorem Akc {Z:Mu}{x:MV}{m:List Nat}(R:E0 Z x=some (A8 m))(h:m≠[]):Anb [x] Z=some (.p (.int (Ny m:Nat)),Z):=
 Gh R (Gh (Aff m) ((if_pos (fun e=>h (Aym.mp e))).trans (congrArg (fun z=>some (MV.p (.int z),Z)) (Aft m))))
theorem Ab5 {Z:Mu}{y:MV}{m:List Nat}{x:Nat}(T:E0 Z y=some (A8 m))(N:m.length<=64)(Y:∀v∈m,v<100)(R:x∈m):Yq [y,.p (.int (x:Nat))] Z=some (.p (.int (m.idxOf x:Nat)),Z):=by
 refine Gh T (Gh (Aff m) ((if_pos ⟨by rw[Bn];exact N,Bd.mpr fun z hz=>?_,Bj.mpr ⟨x,R,rfl⟩⟩).trans (congrArg (fun z:Nat=>some (MV.p (.int z),Z)) (Ajz x m))));obtain⟨v,F,rfl⟩:=Bj.mp hz;exact decide_eq_true (Cv (Y v F) (by decide))
theorem A6x {Z:Mu}{m:List Nat}(h:m≠[]):Anb [.p (.list (A8 m))] Z=some (.p (.int (Ny m:Nat)),Z):=Akc (x:=.p (.list (A8 m))) rfl h
theorem Avx {Z:Mu}{m:List Nat}{x:Nat}(N:m.length<=64)(Y:∀v∈m,v<100)(R:x∈m):Yq [.p (.list (A8 m)),.p (.int (x:Nat))] Z=some (.p (.int (m.idxOf x:Nat)),Z):=Ab5 (y:=.p (.list (A8 m))) rfl N Y R
theorem Afy:∀m∈L4,Ny m∈m:=by decide+kernel
theorem Ajl {u:Type}(l:List u){k:Nat}(h:k<=l.length):cut (some (k:Int)) none l=l.drop k:=by
 unfold cut;have U:X3 (some (k:Int)) l.length=k:=by show(if(k:Int)<0 then l.length-(-(k:Int)).toNat else min (k:Int).toNat l.length)=k;rw[if_neg (by lia)];simp;exact H1 h
 have O:Aei none l.length=l.length:=rfl;rw[U,O,Cj (by simp)]
theorem Au7 {u:Type}(l:List u){k:Nat}(h:k<=l.length):cut none (some (k:Int)) l=l.take k:=by
 unfold cut;have U:Aei (some (k:Int)) l.length=k:=by show(if(k:Int)<0 then l.length-(-(k:Int)).toNat else min (k:Int).toNat l.length)=k;rw[if_neg (by lia)];simp;exact H1 h
 have O:X3 none l.length=0:=rfl;rw[U,O,Gy,Ob]
noncomputable def tk0 (m:List Nat)(n cell:Nat)(x:List (Option MV)):Sl:=
 some (.p (.list (A8 m)))::some (.mu n)::some (.mu (n+1))::some (.mu (n+2))::some (.mu (n+3))::some (.p (.int (cell:Nat)))::x
noncomputable def Tp (cell n:Nat):Nat:=1+(cell/2+n)%7
section
variable {m:List Nat}{cell first fac v:Nat}{due:List PV}{Z0z:Mu}{P W R K:List PV}{rest:Mu}{F:List PV}
variable {x6 x7 x8 x9 x10 x11 x12 x13 x14 x15 x16 x17 x18 x19 x20 x21 x22:Option MV}{y:List (Option MV)}{Z:Mu}
theorem A70 {n:Nat}:tk1 (tk0 m n cell (x6::y)) Z=some (.next,tk0 m n cell (some (.p (.tuple Pt))::y),Z):=rfl
theorem A71 {n:Nat}:tk2 (tk0 m n cell (x6::x7::y)) Z=some (.next,tk0 m n cell (x6::some (.p (.tuple Q3))::y),Z):=rfl
theorem A72 {n:Nat}(z:m∈L4)(L:Z[n+3]?=some (some (.lst K)))(u:K.length<=1000):tk3 (tk0 m n cell (x6::x7::x8::x9::y)) Z=
  some (.next,tk0 m n cell (x6::x7::some (.p (.int (m.idxOf (Ny m):Nat)))::some (.p (.int (Tp cell K.length:Nat)))::y),Z):=by
 refine Aa fun X=>?_;obtain⟨N,f,A,j⟩:=M2 m z;refine X ?_;have W:((cell/2:Nat):Int)+(K.length:Int)=((cell/2+K.length:Nat):Int):=rfl;have D:(1:Int)+(((cell/2+K.length)%7:Nat):Int)=(Tp cell K.length:Nat):=by unfold Tp;exact rfl
 unfold tk3 tk0;simp only[Cp,It,Ak,Bk,bE,vE,kE,Cm,Gq,swT,Sq,Gi,Rl,Bc,qe,qf,qc,qd,Ti,Ars,A6e,qi,qj,qk,ql,Iz,A4n,qm,qo,qg,qh,Nat.reduceAdd,Nat.reduceLeDiff,reduceIte,Cg,show ∀l Z,Y6 "list" Z (.p (.list l))=true from fun _ _=>rfl,A6x f,Avx (show m.length≤64 from(Ab N (by decide))) (fun v F=>by have:=j v F;exact Ah this.2 (by decide)) (Afy m z),
  Tm (a:=cell) (b:=2) (b':=2) rfl (by decide) (by decide),Aca L (show K.length<=16384 from(Ab u (by decide))),W,Jd (b:=7) (b':=7) rfl (by decide),D]
theorem A73 {n:Nat}:tk4 (tk0 m n cell (x6::x7::x8::x9::x10::x11::x12::y)) Z=
  some (.next,tk0 m n cell (x6::x7::x8::x9::some (.mu Z.length)::some (.p (.list [.int 0,.str "ring"]))::some (.p (.bool true))::y),Z++[some (.lst [])]):=rfl
end
end
section
noncomputable def Fc (cell:Nat)(c:List Nat)(t:Nat->Nat):List Str:=c.map fun v=>Mk (qOf cell v) (t v)
noncomputable def Nr (cell:Nat)(c:List Nat)(t:Nat→Nat):List PV:=[.int 0,.str "ring"]++c.flatMap fun v=>M0 (qOf cell v,t v)
theorem A10 (m:List Nat):(Fk m).length=m.length:=by unfold Fk;rw[As,D0,Ef];exact A90 List.idxOf_le_length
theorem Ajw {a:EM}{t:TM}{b:SM}{V:Sl}{Z:Mu}{x:MV}{l:List MV}(M:a V Z=some (x,Z))(R:∀Z':Mu,Kp Z' x=some l):R8 (Z3 a) t b V Z=Eo t b l V Z:=by
 unfold R8 Z3;simp only[M,qc,R,qd];rw[R7 (items:=l) (fun j Z'=>Vx (R Z') j) _ 0 _ _ (by simp) (by simp),Gy]
theorem App (l:List PV)(Z:Mu):Kp Z (.p (.list l))=some (l.map .p):=rfl
theorem A4c {l:List PV}{a:EM}{k H:PM}{x y:Option Int}{V:Sl}{Z:Mu}(M:a V Z=some (.p (.list l),Z))(U:k V Z=some (x,Z))(O:H V Z=some (y,Z))(N:l.length<=16777216):slE false a k H V Z=some (.p (.list (cut x y l)),Z):=by
 simp only[slE,M,U,O,qc];exact if_pos N
section
variable {m:List Nat}{cell fac v:Nat}{due:List PV}{Z0z:Mu}{P W R K:List PV}{rest:Mu}{F:List PV}
variable {x13 x14 x15 x16 x17 x18 x19 x20 x21 x22 x23 x24 x25 x26 x27 x28:Option MV}{y:List (Option MV)}{Z:Mu}
theorem Ash {n fl:Nat}(z:m∈L4):tk5 (tkF m n cell (m.idxOf (Ny m)) fac fl due y) Z=Eo (Bc 13) Ak9 ((Fk m).map fun(v:Nat)=>.p (.int (v:Nat))) (tkF m n cell (m.idxOf (Ny m)) fac fl due y) Z:=by
 have a:=M2 m z;have K:=a.2.1;have A:=a.2.2.1;have j:=a.2.2.2;have hk:m.idxOf (Ny m)<=(A8 m).length:=by unfold A8;rw[Bn];exact Ba (E2 (Afy m z))
 have h:(A8 m).length<=4:=by unfold A8;rw[Bn];exact a.1
 have W:∀x8,slE false (vE 0) (atP (vE 8)) noP (some (.p (.list (A8 m)))::some (.mu n)::some (.mu (n+1))::some (.mu (n+2))::some (.mu (n+3))::some (.p (.int (cell:Nat)))::some (.p (.tuple Pt))::some (.p (.tuple Q3))::some (.p (.int (m.idxOf (Ny m):Nat)))::x8) Z=some (.p (.list (cut (some ((m.idxOf (Ny m):Nat):Int)) none (A8 m))),Z):=fun x8=>A4c rfl rfl rfl (Ab h (by decide));have D:∀x8,slE false (vE 0) noP (atP (vE 8)) (some (.p (.list (A8 m)))::some (.mu n)::some (.mu (n+1))::some (.mu (n+2))::some (.mu (n+3))::some (.p (.int (cell:Nat)))::some (.p (.tuple Pt))::some (.p (.tuple Q3))::some (.p (.int (m.idxOf (Ny m):Nat)))::x8) Z=some (.p (.list (cut none (some ((m.idxOf (Ny m):Nat):Int)) (A8 m))),Z):=fun x8=>A4c rfl rfl rfl (Ab h (by decide));unfold tk5 Bba tkF;rw[Ajw (x:=.p (.list (A8 (Fk m)))) (l:=(Fk m).map fun(v:Nat)=>.p (.int (v:Nat)))]
 ·rw[Wq (W _) (D _),Ajl _ hk,Au7 _ hk,Amc (by simp only[D0,Ef];exact Ab (Ax (Ab (Dy _ _) h) (Ab (G5 _ _) (Ab hk h))) (by decide))];unfold Fk A8;rw[F5,Bbm,Alw]
 ·intro Z';rw[App];unfold A8;rw[F6];rfl
noncomputable def Ant:List PV:=[.str "/",.str "\\",.str ":",.str ";",.str "\"",.str "(",.str ")",.str " ",.str "--",.str "-unknown-"]
theorem A11:∀k<10,Ant[k]?=some (.str (ofL (Hm k))):=fun k hk=>by
 have:k=0\/k=1\/k=2\/k=3\/k=4\/k=5\/k=6\/k=7\/k=8\/k=9:=(Aur hk);rcases this with rfl|rfl|rfl|rfl|rfl|rfl|rfl|rfl|rfl|rfl<;>rfl
theorem A74 {n first fl:Nat}(L:Z[n+3]?=some (some (.lst K)))(u:K.length<=1000):tk6 (tkF m n cell first fac fl due (x13::x14::x15::x16::x17::x18::x19::x20::x21::x22::x23::y)) Z=
  some (.next,tkF m n cell first fac fl due (x13::x14::x15::x16::x17::x18::x19::x20::x21::x22::some (.p (.str (ofL (Hm ((cell+K.length)%10)))))::y),Z):=by
 have i:(cell:Int)+(K.length:Int)=((cell+K.length:Nat):Int):=rfl;have J:∀V:Sl,It (Ak (kE (.str "/")) (Ak (kE (.str "\\")) (Ak (kE (.str ":")) (Ak (kE (.str ";")) (Ak (kE (.str "\"")) (Ak (kE (.str "(")) (Ak (kE (.str ")")) (Ak (kE (.str " ")) (Ak (kE (.str "--")) (Ak (kE (.str "-unknown-")) Bk)))))))))) V Z=
  some (.p (.tuple Ant),Z):=fun V=>rfl
 unfold tk6;apply Fu (Du (Sh (Bz rfl (Bz rfl (Bz rfl (Bz rfl (Bz rfl (Bz rfl (Bz rfl (Bz rfl (Bz rfl (Bz rfl rfl)))))))))) ?_ rfl) (Du (Du rfl (Ju (Bz rfl rfl) ?_) ?_) rfl ?_) ?_) rfl<;>first|exact congrArg (fun z=>some (MV.p (PV.int z),_)) J|exact congrArg (fun z=>some (MV.p (PV.int z),_)) i|exact J|exact Aca L (show K.length<=16384 from(Ab u (by decide)))|exact i|exact Jd (b:=10) (b':=10) rfl (by decide)|exact R9 (show Ant.length<=16777216 by decide) (A11 _ (Cr (cell+K.length) (by decide)))|rfl|exact Ee rfl|decide|skip
structure Agi (cell:Nat)(c:List Nat)(t:Nat->Nat):Prop where
 v:∀v∈c,1<=v/\v<=4/\t v<4
 n0:c≠[]
 n4:c.length<=4
theorem Agi.clean {c:List Nat}{t:Nat->Nat}(H:Agi cell c t):∀x∈Fc cell c t,Vj x:=fun x R=>by
 obtain⟨v,F,rfl⟩:=Bj.mp R;obtain⟨U,G,d⟩:=H.v v F;exact(Afc (Q0 cell U G) (show t v<20 from(Ah (Ai d) (by decide)))).1
theorem Agi.len {c:List Nat}{t:Nat->Nat}(H:Agi cell c t):((Fc cell c t).map (·.length)).sum<=100/\(Fc cell c t).length<=4/\1<=(Fc cell c t).length:=by
 have h:∀l:List Str,(∀x∈l,Vj x)->(l.map (·.length)).sum<=25*l.length:=fun l=>by
  induction l with
  |nil=>intro _;exact At _
  |cons a r J=>
   intro h;have:=J fun x R=>h x (A4 _ R);have M:=(h a (An ..)).2.1;have:a.length=a.cps.toList.length:=by unfold R1;simp
   simp only[qk,Lw,qi];exact Ag1 (by assumption) (Ab (Aj this) M)
 have e:(Fc cell c t).length=c.length:=by unfold Fc;exact Bn ..
 have I:=G4.mpr H.n0;have G:(Fc cell c t).length<=4:=Ab (Aj e) H.n4;exact⟨Ab (h _ H.clean) (Au 25 G),G,Ab I (Aj e.symm)⟩
theorem A12:∀k<10,(Hm k).length<=9:=by decide+kernel
theorem A75 {n first fl:Nat}{c:List Nat}{t:Nat->Nat}(H:Agi cell c t){k:Nat}(hk:k<10)(L:Z[fl]?=some (some (.lst ((Fc cell c t).map .str)))):
  tk7 (tkF m n cell first fac fl due (x13::x14::x15::x16::x17::x18::x19::x20::x21::x22::some (.p (.str (ofL (Hm k))))::x24::y)) Z=
  some (.next,tkF m n cell first fac fl due (x13::x14::x15::x16::x17::x18::x19::x20::x21::x22::some (.p (.str (ofL (Hm k))))::some (.p (.str (oS "ring-"++Cs (ofL [Jw k]) (Fc cell c t))))::y),Z):=by
 have V:=H.len.1;have l:=A12 k hk;have h:(ofL (Hm k)).length=(Hm k).length:=H9 _;have Y:(Fc cell c t).length*(ofL (Hm k)).length<=4*9:=Xw H.len.2.1 (by assumption);have E:=Aaj (ofL (Hm k)) (Fc cell c t);unfold tk7 tkF;simp only[Cp,Cm,Ak,Bk,bE,kE,vE,qe,qf,qc,Gq,show ∀x Z,Y6 "str" Z (.p (.str x))=true from fun _ _=>rfl,if_true,Av5 (x:=ofL (Hm k)) L (Ab (Ax V Y) (by decide)),
  Kd (show(ofL (Hm k)).length+(Cs (ofL (Hm k)) (Fc cell c t)).length<=16777216 from(Ab (Ax (Ab (Aj h) l) (Ab E (Ax V Y))) (by decide))),
  Kd (show(ofL (Hm k)++Cs (ofL (Hm k)) (Fc cell c t)).length+(ofL (Hm k)).length<=16777216 by rw[C5];exact Ab (Ax (Ax (Ab (Aj h) l) (Ab E (Ax V Y))) (Ab (Aj h) l)) (by decide)),fcF,Aw2 H.clean H.len.2.2 H.len.2.1 hk Z,
  Bc,qd,qg,qh]
theorem Apk (k:Nat):Acw (Jw k)/\Jw k<128:=by
 unfold Jw;split
 ·exact⟨Asa,by decide⟩
 ·exact⟨Akw,by decide⟩
theorem A76 {n first fl:Nat}{c:List Nat}{t:Nat->Nat}(H:Agi cell c t){k:Nat}:
  tk8 (tkF m n cell first fac fl due (x13::x14::x15::x16::x17::x18::x19::x20::x21::x22::x23::some (.p (.str (oS "ring-"++Cs (ofL [Jw k]) (Fc cell c t))))::x25::y)) Z=
  some (.next,tkF m n cell first fac fl due (x13::x14::x15::x16::x17::x18::x19::x20::x21::x22::x23::some (.p (.str (oS "ring-"++Cs (ofL [Jw k]) (Fc cell c t))))::some (.p (.list (Nr cell c t)))::y),Z):=by
 refine exe2 (K0 H.n0) fun a r L=>?_;have hq:∀q∈(qOf cell a,t a)::r.map (fun v=>(qOf cell v,t v)),Afa q:=fun q hq=>by
  rw[show(qOf cell a,t a)::r.map (fun v=>(qOf cell v,t v))=c.map (fun v=>(qOf cell v,t v)) by rw[L];rfl] at hq;obtain⟨v,F,rfl⟩:=Bj.mp hq;obtain⟨U,G,d⟩:=H.v v F;exact⟨Q0 cell U G,show t v<20 from(Ah (Ai d) (by decide))⟩
 have e:=Arb (Apk k).1 (Apk k).2 (qOf cell a,t a) (r.map fun v=>(qOf cell v,t v)) hq (by have:=H.n4;rw[L] at this;simp at this |-;exact Ab this (by decide)) Z;have W:(((qOf cell a,t a)::r.map fun v=>(qOf cell v,t v)).map fun q:Fld=>Mk q.1 q.2)=Fc cell c t:=by rw[L];unfold Fc;simp
 have D:[.int 0,.str "ring"]++((qOf cell a,t a)::r.map fun v=>(qOf cell v,t v)).flatMap M0=Nr cell c t:=by rw[L];unfold Nr;simp[Jh]
 rw[W,D] at e;unfold tk8 tkF;simp only[Cp,Cm,Ak,Bk,vE,qe,qf,qc,fcF,e,Bc,qd,qg,qh]
theorem A5t {c:List Nat}{t:Nat->Nat}(H:Agi cell c t):okF 8 (.list (Nr cell c t))=true:=by
 have I:∀q∈Iv,∀n:Nat,(M0 (q,n)).all (okF 7)=true:=by
  have h:∀q∈Iv,(Kv q).all (okF 7)=true:=by decide+kernel
  intro q hq n;unfold M0;rw[Mb,h q hq];rfl
 show(Nr cell c t).all (okF 7)=true;unfold Nr;rw[Mb,Adm];rw[show Aip [PV.int 0,PV.str "ring"] (okF 7)=true by decide+kernel,Fv];refine Bd.mpr fun v F=>?_;exact I _ (Q0 cell ((H.v v F).1) ((H.v v F).2.1)) _
theorem A7g:∀k<10,(ofL (Hm k)==oS " ")=decide (k=7):=by decide+kernel
theorem A77 {n first fl:Nat}{c:List Nat}{t:Nat->Nat}(H:Agi cell c t){k:Nat}(hk:k<10)(L:Z[fl]?=some (some (.lst ((Fc cell c t).map .str)))):
  tk9 (tkF m n cell first fac fl (Nr cell c t) (x13::x14::x15::x16::x17::x18::x19::x20::x21::x22::some (.p (.str (ofL (Hm k))))::some (.p (.str (oS "ring-"++Cs (ofL [Jw k]) (Fc cell c t))))::some (.p (.list (Nr cell c t)))::y)) Z=
  some (.next,tkF m n cell first fac fl (Nr cell c t) (x13::x14::x15::x16::x17::x18::x19::x20::x21::x22::some (.p (.str (ofL (Hm k))))::some (.p (.str (oS "ring-"++Cs (ofL [Jw k]) (Fc cell c t))))::some (.p (.list (Nr cell c t)))::y),Z):=by
 have V:=H.len.1;have e:=H.len.2.2;have Y:(Fc cell c t).length*(ofL [Jw k]).length<=4*1:=Xw H.len.2.1 (Aj (H9 _));have E:=Aaj (ofL [Jw k]) (Fc cell c t);have R:(oS "ring-").length=5:=rfl;have M:iE (tB (bE eqF (vE 23) (kE (.str " ")))) (kE (.str "_")) (kE (.str "-")) (tkF m n cell first fac fl (Nr cell c t) (x13::x14::x15::x16::x17::x18::x19::x20::x21::x22::some (.p (.str (ofL (Hm k))))::some (.p (.str (oS "ring-"++Cs (ofL [Jw k]) (Fc cell c t))))::some (.p (.list (Nr cell c t)))::y)) Z=some (.p (.str (ofL [Jw k])),Z):=by
  unfold tkF;simp only[iE,tB,bE,kE,vE,qe,qf,qc,Avh,A7g k hk,Ml,qd];by_cases h:k=7
  ·subst h;rfl
  ·rw[if_neg (by simpa using h)];unfold Jw;rw[if_neg h];rfl
 unfold tk9;unfold tkF at M |-
 simp only[Cp,Z0,bE,Ak,Bk,Gq,kE,vE,qe,qf,qc,Ml,if_true,M,show ∀x Z,Y6 "str" Z (.p (.str x))=true from fun _ _=>rfl,Av5 (x:=ofL [Jw k]) L (Ab (Ax V Y) (by decide)),
  Kd (show(oS "ring-").length+(Cs (ofL [Jw k]) (Fc cell c t)).length≤16777216 from(Ab (Ar (Ab E (Ax V Y)) _) (by decide))),Avh,beq_self_eq_true,A3y (A5t H),Bc,qd,qg,qh]
theorem A2b {n first fl:Nat}:Ba9 (tkF m n cell first fac fl due (x13::x14::x15::x16::x17::x18::x19::x20::x21::x22::x23::x24::x25::x26::y)) Z=
  some (.next,tkF m n cell first fac fl due (x13::x14::x15::x16::x17::x18::x19::x20::x21::x22::x23::x24::x25::some (.p (.tuple [.str "\n",.str "\r",.str "\r\n"]))::y),Z):=rfl
end
end
section
theorem Vm {u:Type}{nx:Nx}{t:TM}{b:BM}{f:CM}{Z:Mu}{as:List u}{E:u->MV}(h:∀j,nx j Z=some ((as.map E)[j]?))(d:Sl->Prop)(g:u->Option PV)
  (step:∀V a l,d V->a∈as->l.length<=10000->∃V1z,t V Z (E a)=some (V1z,Z)/\((∃v c,g a=some v/\b V1z Z=some (true,Z)/\f V1z Z l=some (c,Z,l++[v])/\d c)\/(g a=none/\b V1z Z=some (false,Z)/\d V1z))):
  ∀(k i:Nat)(V:Sl)(l:List PV),as.length-i=k->i<=as.length->d V->l.length+k<=10000->∃V',d V'/\U2 nx t b f (k+1) i V Z l=some (V',Z,l++(as.drop i).filterMap g)
 |0,i,V,l,hk,H,P,N=>by
  refine⟨V,P,?_⟩;rw[Ao2];rw[h,Io (by simp;exact Dm hk),Gx (Dm hk)];simp
 |k+1,i,V,l,hk,H,P,N=>by
  have e:i<as.length:=(Qd hk);obtain⟨V1z,W,D⟩:=step V as[i] l P (S9 _) (Bm N);rw[Ao2];rw[h,B0,Bx e,Cc e];simp only[qd,qc,W];rcases D with⟨v,c,g1,g2,g3,g4⟩|⟨g1,g2,g3⟩
  ·obtain⟨V',o,i2⟩:=Vm h d g step k (i+1) c (l++[v]) (Wp hk) (by assumption) g4 (by simp;exact Aba N);refine⟨V',o,?_⟩;simp only[g2,qc,if_true,g3];rw[i2,List.filterMap_cons_some g1];simp
  ·obtain⟨V',o,i2⟩:=Vm h d g step k (i+1) V1z l (Wp hk) (by assumption) g3 (Ba (by assumption));refine⟨V',o,?_⟩;simp only[g2,qc,Ch,if_false];rw[i2,List.filterMap_cons_none g1]
theorem Wx {u:Type}{caps:List (Option Nat)}{q:IM}{nx:Nx}{t:TM}{b:BM}{f:CM}{V:Sl}{Z:Mu}{as:List u}{E:u->MV}(p:q V Z=some (nx,as.length,Z))(h:∀j,nx j Z=some ((as.map E)[j]?))(d:Sl->Prop)(g:u->Option PV)
  (step:∀V a l,d V->a∈as->l.length<=10000->∃V1z,t V Z (E a)=some (V1z,Z)/\((∃v c,g a=some v/\b V1z Z=some (true,Z)/\f V1z Z l=some (c,Z,l++[v])/\d c)\/(g a=none/\b V1z Z=some (false,Z)/\d V1z)))
  (L:Yl caps V=true)(I:d (Pi caps V))(N:as.length<=1000):Rg caps q t b f V Z=some (.p (.list (as.filterMap g)),Z):=by
 refine Aa fun y=>?_;obtain⟨V',_,e⟩:=Vm h d g step as.length 0 (Pi caps V) [] (by simp) (by simp) I (by simp;exact Ab N (by decide));refine y ?_;unfold Rg A3w;simp only[p,qc,if_pos L,e,qd,qm,Gy,Eg]
theorem W0 {a:EM}{V:Sl}{Z:Mu}{v:PV}{l:List PV}(M:a V Z=some (.p v,Z))(N:l.length<=10000):Nt a V Z l=some (V,Z,l++[v]):=by
 unfold Nt;rw[M];show(if _ then _ else _)=_;rw[if_pos (Ab (by assumption) (by decide))]
theorem Ue {Z:Mu}(m:List Nat)(k:Nat):inF (.p (.int (k:Nat))) (.p (.list (A8 m))) Z=some (.p (.bool (decide (k∈m))),Z):=by
 have U:(A8 m).all (okF 8)=true:=by
  unfold A8;rw[Aqr];exact Bd.mpr fun v _=>rfl
 have O:(A8 m).any (fun y=>y.py.eqv (PV.int (k:Nat)).py)=decide (k∈m):=by
  unfold A8;rw[Aar];have:∀v:Nat,((fun y:PV=>y.py.eqv (PV.int (k:Nat)).py)∘fun v:Nat=>PV.int (v:Nat)) v=(v==k):=fun v=>by
   show((v:Int)==(k:Int))=(v==k);rw[Hv,beq_iff_eq,beq_iff_eq];exact Ie
  rw[List.any_congr rfl this];rw[Hv,A4i,decide_eq_true_iff];exact⟨fun⟨v,F,e⟩=>by rw[beq_iff_eq] at e;exact e▸F,fun F=>⟨k,F,by simp⟩⟩
 dsimp only[inF,S3,qc,inP];rw[if_pos ⟨rfl,U⟩,O];rfl
theorem Ahx (V:Sl)(Z:Mu):Np (Ak (kE (.int 1)) (Ak (kE (.int 5)) Bk)) Q2 V Z=some (Nf 1 4,([1,2,3,4]:List Nat).length,Z):=rfl
theorem Q1 (Z:Mu)(j:Nat):Nf 1 4 j Z=some ((([1,2,3,4]:List Nat).map fun(v:Nat)=>MV.p (.int (v:Nat)))[j]?):=by
 rw[U8];rfl
noncomputable def Lp (m:List Nat)(t:Nat→Nat)(cell k:Nat):Str:=(if k∈m then oS "" else oS "a")++Pw (t k)++ofL (Mj ((cell+k)%3))
noncomputable def Mw (m:List Nat)(t:Nat→Nat)(k:Nat):Str:=(if k∈m then oS "." else oS "a")++Pw (t k)++oS "\r\n"
noncomputable def Ss:List PV:=[.str "\n",.str "\r",.str "\r\n"]
theorem Ajr:∀e<3,Ss[e]?=some (.str (ofL (Mj e))):=fun e p=>by
 have:e=0\/e=1\/e=2:=(Baa p);rcases this with rfl|rfl|rfl<;>rfl
theorem Abv (e:Nat):(Mj e).length<=2:=by match e with|0=>decide|1=>decide|e+2=>exact At 2
section
variable {m:List Nat}{cell fac v:Nat}{due:List PV}{Z0z:Mu}{P W R K:List PV}{rest:Mu}{F:List PV}
variable {x13 x14 x15 x16 x17 x18 x19 x20 x21 x22 x23 x24 x25 x26 x27 x28:Option MV}{y:List (Option MV)}{Z:Mu}
theorem A2c {n first fl:Nat}{t:Nat->Nat}(L:Z[n+2]?=some (some (.lst (A9 t))))(d:∀k,1<=k->k<=4->t k<100):A7v (tkF m n cell first fac fl due (x13::x14::x15::x16::x17::x18::x19::x20::x21::x22::x23::x24::x25::some (.p (.tuple Ss))::x27::y)) Z=
  some (.next,tkF m n cell first fac fl due (x13::x14::x15::x16::x17::x18::x19::x20::x21::x22::x23::x24::x25::some (.p (.tuple Ss))::some (.p (.list (([1,2,3,4].map (Lp m t cell)).map .str)))::y),Z):=by
 have e:=fun(V:Sl) (P:V=tkF m n cell first fac fl due (x13::x14::x15::x16::x17::x18::x19::x20::x21::x22::x23::x24::x25::some (.p (.tuple Ss))::x27::y))=>Wx (caps:=[none,some 5,some 26,some 0,some 3]) (t:=Bc 0) (b:=T2) (V:=V) (Z:=Z)
  (f:=Nt (bE Fg (bE Fg (iE (tB (bE inF (vE 0) (vE 3))) (kE (.str "")) (kE (.str "a"))) (bE D6 (vE 4) (vE 0))) (bE D6 (vE 2) (bE (i2 Jp) (bE Fg (vE 1) (vE 0)) (kE (.int 3))))))
  (Ahx _ _) (Q1 Z) (fun V=>∃x,V=[x,some (.p (.int (cell:Nat))),some (.p (.tuple Ss)),some (.p (.list (A8 m))),some (.mu (n+2))]) (fun k=>some (.str (Lp m t cell k))) (fun V k l H hk N=>by
   obtain⟨x,rfl⟩:=H;have hk:1<=k/\k<=4:=by
    have:∀k∈([1,2,3,4]:List Nat),1<=k/\k<=4:=by decide
    exact this k hk
   have j:∀Z',Z'=Z->D6 (.mu (n+2)) (.p (.int (k:Int))) Z'=some (.p (.str (Pw (t k))),Z'):=fun Z' e=>by
    subst e;exact Pm L (On _) (Of _ (Ah hk.2 (by decide)))
   have i:(cell:Int)+(k:Int)=((cell+k:Nat):Int):=rfl;have g:=Nz (t k);have s:=d k hk.1 hk.2;have h:(ofL (Mj ((cell+k)%3))).length<=2:=by rw[H9];exact Abv _
   have o:(oS "a").length=1:=rfl;have u:(oS "").length=0:=rfl;refine⟨[some (.p (.int (k:Nat))),some (.p (.int (cell:Nat))),some (.p (.tuple Ss)),some (.p (.list (A8 m))),some (.mu (n+2))],rfl,.inl ⟨_,_,rfl,rfl,W0 ?_ N,⟨_,rfl⟩⟩⟩;have p:D6 (.p (.tuple Ss)) (.p (.int (((cell+k)%3:Nat):Int))) Z=some (.p (.str (ofL (Mj ((cell+k)%3)))),Z):=R9 (by decide) (Ajr _ (Cr _ (by decide)));unfold Lp;by_cases c:k∈m
   ·simp only[bE,iE,tB,kE,vE,qe,qf,qc,Ue,Ml,qd,decide_eq_true c,if_true,if_pos c,j,Ti,i,Jd (b:=3) (b':=3) rfl (by decide),p,Kd (a:=oS "") (b:=Pw (t k)) (Ab (Ar (Ab (Aj g) (Ab (Aj (Eq.symm g)) (Ab (Aj g) (A3 (Ai s))))) _) (by decide)),Kd (a:=oS ""++Pw (t k)) (b:=(ofL (Mj ((cell+k)%3)))) (by rw[C5];exact Ab (Ax (Ar (Ab (Aj g) (Ab (Aj (Eq.symm g)) (Ab (Aj g) (A3 (Ai s))))) _) h) (by decide))]
   ·simp only[bE,iE,tB,kE,vE,qe,qf,qc,Ue,Ml,qd,decide_eq_false c,Ch,if_false,if_neg c,j,Ti,i,Jd (b:=3) (b':=3) rfl (by decide),p,Kd (a:=oS "a") (b:=Pw (t k)) (Ab (Ar (Ab (Aj g) (Ab (Aj (Eq.symm g)) (Ab (Aj g) (A3 (Ai s))))) _) (by decide)),Kd (a:=oS "a"++Pw (t k)) (b:=(ofL (Mj ((cell+k)%3)))) (by rw[C5];exact Ab (Ax (Ar (Ab (Aj g) (Ab (Aj (Eq.symm g)) (Ab (Aj g) (A3 (Ai s))))) _) h) (by decide))]) (by subst P;rfl) (by subst P;exact⟨_,rfl⟩) (by decide)
 unfold A7v;simp only[Cp,(e _ rfl),qc];rfl
theorem A2d {n first fl:Nat}{t:Nat->Nat}(L:Z[n+2]?=some (some (.lst (A9 t))))(d:∀k,1<=k->k<=4->t k<100):A7w (tkF m n cell first fac fl due (x13::x14::x15::x16::x17::x18::x19::x20::x21::x22::x23::x24::x25::x26::x27::x28::y)) Z=
  some (.next,tkF m n cell first fac fl due (x13::x14::x15::x16::x17::x18::x19::x20::x21::x22::x23::x24::x25::x26::x27::some (.p (.str (Cs (oS "") ([1,2,3,4].map (Mw m t)))))::y),Z):=by
 have o:(oS "a").length=1:=rfl;have u:(oS ".").length=1:=rfl;have i:(oS "\r\n").length=2:=rfl;have e:=fun(V:Sl) (P:V=tkF m n cell first fac fl due (x13::x14::x15::x16::x17::x18::x19::x20::x21::x22::x23::x24::x25::x26::x27::x28::y))=>Wx (caps:=[none,some 0,some 3]) (t:=Bc 0) (b:=T2) (V:=V) (Z:=Z)
  (f:=Nt (bE Fg (bE Fg (iE (tB (bE inF (vE 0) (vE 1))) (kE (.str ".")) (kE (.str "a"))) (bE D6 (vE 2) (vE 0))) (kE (.str "\r\n"))))
  (Ahx _ _) (Q1 Z) (fun V=>∃x,V=[x,some (.p (.list (A8 m))),some (.mu (n+2))]) (fun k=>some (.str (Mw m t k))) (fun V k l H hk N=>by
   obtain⟨x,rfl⟩:=H;have hk:1<=k/\k<=4:=by
    have:∀k∈([1,2,3,4]:List Nat),1<=k/\k<=4:=by decide
    exact this k hk
   have j:D6 (.mu (n+2)) (.p (.int (k:Int))) Z=some (.p (.str (Pw (t k))),Z):=Pm L (On _) (Of _ (Ah hk.2 (by decide)));have g:=Nz (t k);have s:=d k hk.1 hk.2;refine⟨[some (.p (.int (k:Nat))),some (.p (.list (A8 m))),some (.mu (n+2))],rfl,.inl ⟨_,_,rfl,rfl,W0 ?_ N,⟨_,rfl⟩⟩⟩;unfold Mw;by_cases c:k∈m
   ·simp only[bE,iE,tB,kE,vE,qe,qf,qc,Ue,Ml,qd,decide_eq_true c,if_true,if_pos c,j,Kd (a:=oS ".") (b:=Pw (t k)) (Ab (Ar (Ab (Aj g) (Ab (Aj (Eq.symm g)) (Ab (Aj g) (A3 (Ai s))))) _) (by decide)),Kd (a:=oS "."++Pw (t k)) (b:=oS "\r\n") (by rw[C5];exact Ab (Bp (Ar (Ab (Aj g) (Ab (Aj (Eq.symm g)) (Ab (Aj g) (A3 (Ai s))))) _) _) (by decide))]
   ·simp only[bE,iE,tB,kE,vE,qe,qf,qc,Ue,Ml,qd,decide_eq_false c,Ch,if_false,if_neg c,j,Kd (a:=oS "a") (b:=Pw (t k)) (Ab (Ar (Ab (Aj g) (Ab (Aj (Eq.symm g)) (Ab (Aj g) (A3 (Ai s))))) _) (by decide)),Kd (a:=oS "a"++Pw (t k)) (b:=oS "\r\n") (by rw[C5];exact Ab (Bp (Ar (Ab (Aj g) (Ab (Aj (Eq.symm g)) (Ab (Aj g) (A3 (Ai s))))) _) _) (by decide))]) (by subst P;rfl) (by subst P;exact⟨_,rfl⟩) (by decide)
 have h:∀k,1<=k->k<=4->(Mw m t k).length<=200:=fun k U G=>by
  have:=d k U G;unfold Mw;rw[C5,C5,Nz];split<;>exact Ab (Bp (Ar (A3 (Ai this)) _) _) (by decide)
 have K:([1,2,3,4]:List Nat).filterMap (fun k=>some (PV.str (Mw m t k)))=([1,2,3,4].map (Mw m t)).map .str:=rfl;unfold A7w;simp only[Cp,Gq,kE,Ak,Bk,e,K,qc,show ∀x Z,Y6 "str" Z (.p (.str x))=true from fun _ _=>rfl,if_true];rw[Av4]
 ·unfold tkF;dsimp only[qc,Bc,qd,qg,qh]
 ·have U:=h 1 (by decide) (by decide);have O:=h 2 (by decide) (by decide);have C:=h 3 (by decide) (by decide);have G:=h 4 (by decide) (by decide);simp only[qk,ql,Lw,Aqu,qi,qj];have:(oS "").length=0:=rfl;exact Ab (Bp (Ax U (Ax O (Ax C (Bp G _)))) _) (by decide)
end
end
section
noncomputable def Xc (m:List Nat)(t:Nat->Nat)(cell:Nat):List (Bool×Nat×Nat):=[1,2,3,4].map fun k=>(decide (k∈m),t k,(cell+k)%3)
theorem Am6 (m:List Nat)(t:Nat→Nat)(cell:Nat):(Cs (oS "") ([1,2,3,4].map (Lp m t cell))).cps.toList=Mt (Xc m t cell):=by
 rw[Aj3];unfold Xc Mt;rw[Jh,Jh]
 congr 1
 funext k;unfold Lp;rw[B4,B4,Be,Be];by_cases h:k∈m
 ·rw[if_pos h,if_pos (decide_eq_true h),Az];rfl
 ·rw[if_neg h,if_neg (by simpa using h),Az];rfl
theorem Am7 (m:List Nat)(t:Nat→Nat)(cell:Nat):(Cs (oS "") ([1,2,3,4].map (Mw m t))).cps.toList=Af2 (Xc m t cell):=by
 rw[Aj3];unfold Xc Af2;rw[Jh,Jh]
 congr 1
 funext k;unfold Mw;rw[B4,B4,Be,Be];by_cases h:k∈m
 ·rw[if_pos h,if_pos (decide_eq_true h),Az];rfl
 ·rw[if_neg h,if_neg (by simpa using h),Az];rfl
theorem Awm (e:Nat)(l:List (Bool×Nat×Nat)):Ae4 (Vw ([46,98,46]++(Mj e++Mt l)))=[46,46,98,46,13,10]++Af2 l:=by
 unfold Ae4 Vw;have p:1<=(Mj e).length:=by match e with|0=>exact At _|1=>exact At _|e+2=>exact(by decide:1<=2)
 have B:Qw [46,98,46]:=by unfold Qw;decide
 have h:Qw [98,46]:=by unfold Qw;decide
 obtain⟨n,K⟩:∃n,([46,98,46]++(Mj e++Mt l)).length=(n+1)+([46,98,46]:List Nat).length/\(Mt l).length<=n:=by
  refine⟨(Mj e).length-1+(Mt l).length,?_,(Br _ _)⟩;simp only[As];exact A9z p
 rw[K.1,Yx _ _ _ B,Akd e n _ (Afq l)];show Oh true (46::([98,46]++(13::10::G3 n (Mt l))))=_;rw[Ao5 _ _ h,Ahc,Afr l n K.2];rfl
theorem Arr (m:List Nat)(t:Nat→Nat)(cell:Nat)(d:∀k,1≤k→k≤4→t k<100):(Cs (oS "") ([1,2,3,4].map (Lp m t cell))).length≤500∧((([1,2,3,4]:List Nat).map (Lp m t cell)).map (·.length)).sum≤500:=by
 have N:∀k,1<=k->k<=4->(Lp m t cell k).length<=110:=fun k U G=>by
  have:=d k U G;have O:(ofL (Mj ((cell+k)%3))).length<=2:=by rw[H9];exact Abv _
  have C:(oS "a").length=1:=rfl;have R:(oS "").length=0:=rfl;unfold Lp;rw[C5,C5,Nz];split<;>exact Ab (Ax (Ar (A3 (Ai this)) _) O) (by decide)
 have U:=N 1 (by decide) (by decide);have O:=N 2 (by decide) (by decide);have C:=N 3 (by decide) (by decide);have G:=N 4 (by decide) (by decide);have I:(oS "").length=0:=rfl;have l:((([1,2,3,4]:List Nat).map (Lp m t cell)).map (·.length)).sum<=500:=by
  simp only[qk,ql,Lw,Aqu];exact Ab (Ax U (Ax O (Ax C (Bp G _)))) (by decide)
 refine⟨Ab (Aaj (oS "") ([1,2,3,4].map (Lp m t cell))) ?_,l⟩;exact l
theorem Ar9 (m:List Nat)(t:Nat→Nat)(d:∀k,1≤k→k≤4→t k<100):(Cs (oS "") ([1,2,3,4].map (Mw m t))).length≤500:=by
 have N:∀k,1<=k->k<=4->(Mw m t k).length<=110:=fun k U G=>by
  have:=d k U G;have C:(oS "a").length=1:=rfl;have R:(oS ".").length=1:=rfl;have r:(oS "\r\n").length=2:=rfl;unfold Mw;rw[C5,C5,Nz];split<;>exact Ab (Bp (Ar (A3 (Ai this)) _) _) (by decide)
 have U:=N 1 (by decide) (by decide);have O:=N 2 (by decide) (by decide);have C:=N 3 (by decide) (by decide);have G:=N 4 (by decide) (by decide);have I:(oS "").length=0:=rfl;refine Ab (Aaj (oS "") ([1,2,3,4].map (Mw m t))) ?_;simp only[qk,ql,Lw,Aqu,qi,qj];exact Ab (Bp (Ax U (Ax O (Ax C (Bp G _)))) _) (by decide)
section
variable {m:List Nat}{cell fac v:Nat}{due:List PV}{Z0z:Mu}{P W R K:List PV}{rest:Mu}{F:List PV}
variable {x13 x14 x15 x16 x17 x18 x19 x20 x21 x22 x23 x24 x25 x26 x27 x28:Option MV}{y:List (Option MV)}{Z:Mu}
theorem A2e {n first fl:Nat}{t:Nat→Nat}(L:Z[n+3]?=some (some (.lst K)))(u:K.length≤1000)(d:∀k,1≤k→k≤4→t k<100):A7x (tkF m n cell first fac fl due (x13::x14::x15::x16::x17::x18::x19::x20::x21::x22::x23::x24::x25::some (.p (.tuple Ss))::some (.p (.list (([1,2,3,4].map (Lp m t cell)).map .str)))::some (.p (.str (Cs (oS "") ([1,2,3,4].map (Mw m t)))))::y)) Z=
  some (.next,tkF m n cell first fac fl due (x13::x14::x15::x16::x17::x18::x19::x20::x21::x22::x23::x24::x25::some (.p (.tuple Ss))::some (.p (.list (([1,2,3,4].map (Lp m t cell)).map .str)))::some (.p (.str (Cs (oS "") ([1,2,3,4].map (Mw m t)))))::y),Z):=by
 refine Aa fun X=>?_;obtain⟨V,f⟩:=Arr m t cell d;refine X ?_;have e:=Ar9 m t d;have g:(oS ".b.").length=3:=rfl;have s:(oS "..b.\r\n").length=6:=rfl;have h:(ofL (Mj (K.length%3))).length<=2:=by rw[H9];exact Abv _
 have l:(oS "").length=0:=rfl;have p:∀Z:Mu,D6 (.p (.tuple Ss)) (.p (.int ((K.length%3:Nat):Int))) Z=some (.p (.str (ofL (Mj (K.length%3)))),Z):=fun Z=>R9 (by decide) (Ajr _ (Cr _ (by decide)));have R:(oS ".b."++ofL (Mj (K.length%3))++Cs (oS "") ([1,2,3,4].map (Lp m t cell))).cps.toList=[46,98,46]++(Mj (K.length%3)++Mt (Xc m t cell)):=by
  rw[B4,B4,Be,Be,Am6,Az];rfl
 have i:(oS ".b."++ofL (Mj (K.length%3))++Cs (oS "") ([1,2,3,4].map (Lp m t cell))).cps.size≤300000:=by
  have:(oS ".b."++ofL (Mj (K.length%3))++Cs (oS "") ([1,2,3,4].map (Lp m t cell))).length≤600:=by
   rw[C5,C5];exact Ab (Ax (Ar h _) V) (by decide)
  exact Ab this (by decide)
 have hq:∀Z:Mu,fcF Vz [.p (.str (oS ".b."++ofL (Mj (K.length%3))++Cs (oS "") ([1,2,3,4].map (Lp m t cell))))] Z=some (.p (.str (oS "..b.\r\n"++Cs (oS "") ([1,2,3,4].map (Mw m t)))),Z):=fun Z=>by
  refine Is ((if_pos i).trans (congrArg (fun z=>some (PV.str z,Z)) ?_));rw[R,Awm];apply Ld;rw[B4,Be,Am7 m t cell];rfl
 unfold A7x tkF;simp only[Cp,Z0,bE,Cm,Ak,Bk,Gq,kE,vE,qe,qf,qc,Ml,if_true,Aca L (show K.length<=16384 from(Ab u (by decide))),Jd (a:=K.length) (b:=3) (b':=3) rfl (by decide),p,
  Kd (a:=oS ".b.") (b:=ofL (Mj (K.length%3))) (Ab (Ar h _) (by decide)),show ∀x Z,Y6 "str" Z (.p (.str x))=true from fun _ _=>rfl,
  Av4 (Z:=Z) (x:=oS "") (ys:=[1,2,3,4].map (Lp m t cell)) (by rw[l,Nat.mul_zero];exact Ab (Bp f _) (by decide)),
  Kd (a:=oS ".b."++ofL (Mj (K.length%3))) (b:=Cs (oS "") ([1,2,3,4].map (Lp m t cell))) (by rw[C5];exact Ab (Ax (Ar h _) V) (by decide)),hq,
  Kd (a:=oS "..b.\r\n") (b:=Cs (oS "") ([1,2,3,4].map (Mw m t))) (Ab (Ar e _) (by decide)),Avh,beq_self_eq_true,Bc,qd,qg,qh]
theorem Asl {v:Nat}{c:List Nat}(F:v∉c)(t:Nat->Nat):Gk c (P0 t v (t v+1))=Gk (v::c) t:=by
 funext i;unfold Gk P0;by_cases e:i=v
 ·subst e;simp[F]
 ·by_cases h:i∈c<;>simp[e,h]
theorem Ac2 {first fl:Nat}:∀(c:List Nat) (t:Nat->Nat) (x13:Option MV),c.Nodup->(∀v∈c,1<=v/\v<=4/\t v<100)->
  ∃q,Eo (Bc 13) Ac3 (c.map fun(v:Nat)=>.p (.int (v:Nat))) (tkF m Z0z.length cell first fac fl due (x13::y)) (Mm Z0z P W (A9 t) K rest)=some (.next,tkF m Z0z.length cell first fac fl due (q::y),Mm Z0z P W (A9 (Gk c t)) K rest)
 |[],t,x13,_,_=>⟨x13,by
   have:Gk [] t=t:=by funext i;unfold Gk;simp
   rfl⟩
 |v::c,t,x13,A,L=>by
  have U:=(L v (An ..)).1;have G:=(L v (An ..)).2.1;have z:=(L v (An ..)).2.2;obtain⟨q,D⟩:=Ac2 c (P0 t v (t v+1)) (some (.p (.int (v:Nat)))) (C4.mp A).2 (fun i H=>by
   have:P0 t v (t v+1) i=t i:=by unfold P0;rw[if_neg (fun e:i=v=>(C4.mp A).1 (e▸H))]
   rw[this];exact L i (A4 _ H))
  refine⟨q,?_⟩;have B:D6 (.mu (Z0z.length+2)) (.p (.int (v:Int))) (Mm Z0z P W (A9 t) K rest)=some (.p (.str (Pw (t v))),Mm Z0z P W (A9 t) K rest):=
   Pm (Azh ..) (On _) (Of _ (Dt (by assumption)))
  have d:Ac3 (tkF m Z0z.length cell first fac fl due (some (.p (.int (v:Nat)))::y)) (Mm Z0z P W (A9 t) K rest)=some (.next,tkF m Z0z.length cell first fac fl due (some (.p (.int (v:Nat)))::y),Mm Z0z P W (A9 (P0 t v (t v+1))) K rest):=by
   have g:(oS ".").length=1:=rfl;have s:=Nz (t v);unfold Ac3 Axu tkF;simp only[B5,E5,Cp,bE,vE,kE,qe,qf,qc,B,Kd (a:=Pw (t v)) (b:=oS ".") (Ab (A3 (Ab (Aj s) (Ab (Aj (Eq.symm s)) (Ab (Aj s) (A3 (Ai z)))))) (by decide)),Axa];rw[Ah4 (a:=vE 3) (b:=vE 13) (i:=Z0z.length+2) (j:=v) (l:=A9 t)]
   ·simp only[qc,qd,A9i,Axb t (show v<5 by omega)]
   ·rfl
   ·rfl
   ·exact Azh ..
   ·exact On _
   ·show v<5;omega
  rw[qk];rw[Aby];have e0:Bc 13 (tkF m Z0z.length cell first fac fl due (x13::y)) (Mm Z0z P W (A9 t) K rest) (.p (.int (v:Nat)))=some (tkF m Z0z.length cell first fac fl due (some (.p (.int (v:Nat)))::y),Mm Z0z P W (A9 t) K rest):=rfl;rw[e0,qc,d,qc];show Eo (Bc 13) Ac3 _ _ _=_;rw[D,Asl (C4.mp A).1]
theorem A2f {first fl:Nat}{t:Nat->Nat}(z:m∈L4)(d:∀k,1<=k->k<=4->t k<100):∃q,A7y (tkF m Z0z.length cell first fac fl due (x13::y)) (Mm Z0z P W (A9 t) K rest)=some (.next,tkF m Z0z.length cell first fac fl due (q::y),Mm Z0z P W (A9 (Gk m t)) K rest):=by
 have a:=M2 m z;have N:=a.1;have f:=a.2.1;have j:=a.2.2.2;obtain⟨q,e⟩:=Ac2 (m:=m) (cell:=cell) (fac:=fac) (due:=due) (Z0z:=Z0z) (P:=P) (W:=W) (K:=K) (rest:=rest) (y:=y) (first:=first) (fl:=fl) m t x13 a.2.2.1 (fun v F=>⟨(j v F).1,(j v F).2,d v (j v F).1 (j v F).2⟩);refine⟨q,?_⟩;unfold A7y A4e;rw[Ajw (x:=.p (.list (A8 m))) (l:=m.map fun(v:Nat)=>.p (.int (v:Nat)))]
 ·exact e
 ·rfl
 ·intro Z';rw[App];unfold A8;rw[F6];rfl
theorem A2g {first fl:Nat}{d:List PV}(u:K.length<=1000):A7z (tkF m Z0z.length cell first fac fl due (x13::x14::x15::x16::x17::x18::x19::x20::x21::x22::x23::x24::some (.p (.list d))::y)) (Mm Z0z P W R K rest)=
  some (.next,tkF m Z0z.length cell first fac fl due (x13::x14::x15::x16::x17::x18::x19::x20::x21::x22::x23::x24::some (.p (.list d))::y),Mm Z0z P W R (K++[.list d]) rest):=by
 unfold A7z tkF;simp only[H5,Gq,iE,tB,Ak,Bk,vE,qe,qf,qc,Z4 (Al2 ..),if_true,Ml,qd,Yd (Al2 ..) (show K.length<=16777216 from(Ab u (by decide))),A9j]
end
theorem Asg {m:List Nat}(z:m∈L4)(t:Nat->Nat):Gk m t=Gk (Fk m) t:=by
 funext i;unfold Gk;by_cases h:i∈m
 ·rw[if_pos h,if_pos (((Uh m z).2.1) i h)]
 ·rw[if_neg h,if_neg (fun h'=>h (((Uh m z).2.2) i h').1)]
noncomputable def W7 (cell:Nat)(c:List Nat)(t:Nat->Nat):PV:=.list (Nr cell c t)
theorem Ak7 {m:List Nat}{cell:Nat}{Z0z:Mu}{K:List PV}{rest:Mu}{p t:Nat->Nat}(z:m∈L4)(u:K.length<=1000)(d:∀k,1<=k->k<=4->t k<100)
  (F:∀v∈Fk m,p v≠0/\p v<65536/\t v<4):
  Fq 6 29 tkB [.p (.list (A8 m)),.mu Z0z.length,.mu (Z0z.length+1),.mu (Z0z.length+2),.mu (Z0z.length+3),.p (.int (cell:Nat))] (Mm Z0z (Ao p) (Ap p) (A9 t) K rest)=
   some (.none,Mm Z0z (Ao (Ds (Fk m) p)) (Ap (Ds (Fk m) p)) (A9 (Gk (Fk m) t)) (K++[W7 cell (Fk m) t]) rest):=by
 have j:=(Uh m z).1;have E:=(Oy _ j).2.2;have f:=fun v F=>Jt _ j v F;have H:Agi cell (Fk m) t:=⟨fun v h=>⟨(f v h).1,(f v h).2.1,(F v h).2.2⟩,((Oy _ j).2.1),E⟩;have O:Tp cell K.length≠0:=by unfold Tp;exact Ga (Bl _ _)
 have o:Tp cell K.length<=7:=by unfold Tp;exact Ar (Ai (Cr _ (by decide))) _
 have M:L1 29 [.p (.list (A8 m)),.mu Z0z.length,.mu (Z0z.length+1),.mu (Z0z.length+2),.mu (Z0z.length+3),.p (.int (cell:Nat))]=tk0 m Z0z.length cell [none,none,none,none,none,none,none,none,none,none,none,none,none,none,none,none,none,none,none,none,none,none,none]:=rfl;refine Aa fun w=>?_;obtain⟨q,⟨i,l,A,b,a,x,g,c,s⟩,r⟩:=Ala (m:=m) (cell:=cell) (first:=m.idxOf (Ny m)) (fac:=Tp cell K.length) (Z0z:=Z0z) (K:=K) (rest:=rest) (y:=[none,none,none,none,none,none]) O o u (Fk m) p [] [.int 0,.str "ring"]
  none ⟨none,none,none,none,none,none,none,none,none⟩ ((Oy _ j).1) (fun v h=>⟨(f v h).1,(f v h).2.1,(F v h).1,(F v h).2.1,(F v h).2.2⟩) (by simp;exact Ab E (by decide)) (by simp;exact Ab (Ar (Au _ E) _) (by decide))
 refine w ?_;have e:tk5 (tk0 m Z0z.length cell [some (.p (.tuple Pt)),some (.p (.tuple Q3)),some (.p (.int (m.idxOf (Ny m):Nat))),some (.p (.int (Tp cell K.length:Nat))),some (.mu (Z0z.length+4+rest.length)),some (.p (.list [.int 0,.str "ring"])),some (.p (.bool true)),none,none,none,none,none,none,none,none,none,none,none,none,none,none,none,none]) (Mm Z0z (Ao p) (Ap p) (A9 t) K (rest++[some (.lst [])]))=_:=((Ash (m:=m) (n:=Z0z.length) (cell:=cell) (fac:=Tp cell K.length) (fl:=Z0z.length+4+rest.length) (due:=[.int 0,.str "ring"]) (y:=[none,none,none,none,none,none,none,none,none,none,none,none,none,none,none,none]) (Z:=Mm Z0z (Ao p) (Ap p) (A9 t) K (rest++[some (MO.lst [])])) z).trans r);have hF:([]++(Fk m).map fun v=>PV.str (Mk (qOf cell v) (t v)))=(Fc cell (Fk m) t).map .str:=by unfold Fc;rw[F6];rfl
 have hD:([PV.int 0,PV.str "ring"]++(Fk m).flatMap fun v=>M0 (qOf cell v,t v))=Nr cell (Fk m) t:=rfl;rw[hF,hD] at e;simp only[Z9.sl] at e;have hk:=Cr (cell+K.length) (show 0<10 by decide);have C:=Al2 Z0z (Ao (Ds (Fk m) p)) (Ap (Ds (Fk m) p)) (A9 t) K (rest++[some (.lst ((Fc cell (Fk m) t).map .str))]);have B:=Azh Z0z (Ao (Ds (Fk m) p)) (Ap (Ds (Fk m) p)) (A9 t) K (rest++[some (.lst ((Fc cell (Fk m) t).map .str))]);obtain⟨G,D⟩:=A2f (m:=m) (cell:=cell) (first:=m.idxOf (Ny m)) (fac:=Tp cell K.length) (Z0z:=Z0z) (K:=K) (P:=Ao (Ds (Fk m) p)) (W:=Ap (Ds (Fk m) p)) (rest:=rest++[some (.lst ((Fc cell (Fk m) t).map .str))]) (t:=t) (fl:=Z0z.length+4+rest.length) (due:=Nr cell (Fk m) t) (x13:=q)
  (y:=i::l::A::b::a::x::g::c::s::some (.p (.str (ofL (Hm ((cell+K.length)%10)))))::some (.p (.str (oS "ring-"++Cs (ofL [Jw ((cell+K.length)%10)]) (Fc cell (Fk m) t))))::some (.p (.list (Nr cell (Fk m) t)))::some (.p (.tuple Ss))::some (.p (.list (([1,2,3,4].map (Lp m t cell)).map .str)))::[some (.p (.str (Cs (oS "") ([1,2,3,4].map (Mw m t)))))]) z d
 have I:∃V',tkB (L1 29 [.p (.list (A8 m)),.mu Z0z.length,.mu (Z0z.length+1),.mu (Z0z.length+2),.mu (Z0z.length+3),.p (.int (cell:Nat))]) (Mm Z0z (Ao p) (Ap p) (A9 t) K rest)=
   some (.next,V',Mm Z0z (Ao (Ds (Fk m) p)) (Ap (Ds (Fk m) p)) (A9 (Gk m t)) (K++[W7 cell (Fk m) t]) (rest++[some (.lst ((Fc cell (Fk m) t).map .str))])):=by
  unfold tkB;rw[M,Bw A70,Bw A71,Bw (A72 z (Al2 Z0z (Ao p) (Ap p) (A9 t) K rest) u),Bw A73,Te,R2,Bw e,Bw (A74 C u),Bw (A75 H hk (Pa Z0z (Ao (Ds (Fk m) p)) (Ap (Ds (Fk m) p)) (A9 t) K rest ((Fc cell (Fk m) t).map .str))),Bw (A76 H),Bw (A77 H hk (Pa Z0z (Ao (Ds (Fk m) p)) (Ap (Ds (Fk m) p)) (A9 t) K rest ((Fc cell (Fk m) t).map .str))),Bw A2b];rw[show([.str "\n",.str "\r",.str "\r\n"]:List PV)=Ss from rfl];rw[Bw (A2c B d),Bw (A2d B d),Bw (A2e C u d),Bw D,Bw (A2g u)];exact⟨_,rfl⟩
 obtain⟨V',I⟩:=I;rw[Aq9 (np:=6) rfl I,R2,Azi,Asg z]
end
theorem Aah {np n:Nat}{f:SM}{C:List MV}{Z:Mu}{V':Sl}{Z':Mu}{x:PV}(M:C.length=np)(h:f (L1 n C) Z=some (.ret (.p x),V',Z')):Fq np n f C Z=some (x,Z'.take Z.length):=by
 show(if _ then _ else _)=_;rw[if_pos M];show((f _ _).map _).bind _=_;rw[h];rfl
theorem Asm {n:Nat}(Y:n<65536):F0 n=[]↔n=0:=⟨fun h=>by
 by_cases e:n=0
 ·exact e
 ·rw[V3 e Y] at h;simp at h,fun h=>by subst h;rfl⟩
theorem Aja {n:Nat}(Y:n<65536)(Z:Mu):fcF (Fq 1 1 Hj) [.p (Ej n)] Z=some (.p (.int (Abe n:Nat)),Z):=by
 have W:neF (.p (Ej n)) (.p (.bytes ([]:List UInt8).toArray)) Z=some (.p (.bool (!decide (n=0))),Z):=by
  have:(F0 n==[])=decide (n=0):=by rw[Hv,beq_iff_eq,decide_eq_true_iff];exact Asm Y
  show some (MV.p (.bool (!(F0 n==[]))),Z)=_;rw[this]
 have M:L1 1 [.p (Ej n)]=[some (.p (Ej n))]:=rfl;have h:Hj (L1 1 [.p (Ej n)]) Z=some (.ret (.p (.int (Abe n:Nat))),[some (.p (Ej n))],Z):=by
  rw[M];unfold Hj;by_cases I:n=0
  ·subst I;rfl
  ·have d:D6 (.p (Ej n)) (.p (.int (-1))) Z=some (.p (.int ((Db (65+n%16)).toNat:Nat)),Z):=Apj (by have:=Ru Y;exact Ab this (by decide)) (Adb I Y);have a:(((Db (65+n%16)).toNat:Nat):Int)-65=((n%16:Nat):Int):=by rw[An7 _ (Ah (Ai (Cr _ (by decide))) (by decide))];lia
   have e:Abe n=n%16%5:=by unfold Abe;rw[if_neg I]
   simp only[B5,O6,bE,uE,vE,kE,iE,tB,qf,qc,qd,Y4,Zn,Ml,reduceIte,W,decide_eq_false I,A8w,d,a,Jd (b:=5) (b':=5) rfl (by decide),e]
 unfold fcF;rw[Aah (np:=1) rfl h,Eg];rfl
noncomputable def Ij (cell:Nat)(l:Lab):PV:=.list ([.int 0,.str "ring"]++l.flatMap fun q=>M0 (qOf cell q.1,q.2))
theorem Aj4 (cell:Nat)(c:List Nat)(t:Nat->Nat):W7 cell c t=Ij cell (lab c t):=by
 unfold W7 Ij Nr lab;rw[Jh]
noncomputable def pvS:PV->Int×Str
 | .int i=>(i,oS "")
 | .str s=>(-1,s)
 |_=>(-2,oS "")
theorem Awv:∀i<15,∀j<15,(Kv (Iv.getD i (oS "",0))).map pvS=(Kv (Iv.getD j (oS "",0))).map pvS→i=j:=by decide+kernel
theorem Arw:∀q∈Iv,∃r x,Kv q=[.int r,x]/\((r=100/\∃n,x=.int n)\/(r≠100/\∃s,x=.str s)):=fun q hq=>by
 have j:=Acp q hq;unfold Kv;cases h:PySem.intText? q.1 with
 |none=>
  rw[h] at j;have:(q.2==100)=false:=j.symm;exact exi2 _ _ ⟨rfl,.inr ⟨by simpa using this,_,rfl⟩⟩
 |some n=>exact exi2 _ _ ⟨rfl,.inl ⟨rfl,_,rfl⟩⟩
noncomputable def Tt (l:Lab):Prop:=∀q∈l,1<=q.1/\q.1<=4
noncomputable def Abu (cell:Nat)(l:Lab):List PV:=l.flatMap fun q=>M0 (qOf cell q.1,q.2)
theorem Pk (cell:Nat)(q:Nat×Nat)(l:Lab)(U:1<=q.1)(G:q.1<=4):∃r x,((r=100/\∃n,x=.int n)\/(r≠100/\∃s,x=.str s))/\Kv (qOf cell q.1)=[.int r,x]/\Abu cell (q::l)=.int r::x::.int 100::.int (q.2:Nat)::Abu cell l:=by
 refine exe2 (Arw _ (Q0 cell U G)) fun r x w=>?_;obtain⟨e,h⟩:=w;refine exi2 r x ⟨h,e,?_⟩;show M0 (qOf cell q.1,q.2)++Abu cell l=_;unfold M0;rw[e];rfl
theorem Ao7 (cell:Nat):∀l b:Lab,Tt l->Tt b->(ltL (Abu cell l) (Abu cell b)).isSome=true
 |[],b,_,_=>rfl
 |q::l,[],h,_=>by
  refine exe2 (Pk cell q l (h q (An ..)).1 (h q (An ..)).2) fun r x c=>?_;have e:=c.2.2;rw[e];rfl
 |q::l,d::b,h,h'=>by
  refine Aa fun P=>?_;refine exe2 (Pk cell q l (h q (An ..)).1 (h q (An ..)).2) fun r x o=>?_;obtain⟨R,_,e⟩:=o;refine exe2 (Pk cell d b (h' d (An ..)).1 (h' d (An ..)).2) fun Y g z=>?_;obtain⟨f,_,K⟩:=z;refine P ?_;have J:=Ao7 cell l b (fun a M=>h a (A4 _ M)) (fun a M=>h' a (A4 _ M));have t:(ltL (.int 100::.int (q.2:Nat)::Abu cell l) (.int 100::.int (d.2:Nat)::Abu cell b)).isSome=true:=Pp (.ie 100) fun _=>Pp (Ah1 ..) fun _=>J;rw[e,K];refine Pp (Ah1 r Y) fun j=>?_;rcases R with⟨h1,n,rfl⟩|⟨h1,s,rfl⟩<;>rcases f with⟨h2,n',rfl⟩|⟨h2,s',rfl⟩
  ·exact Pp (Ah1 ..) fun _=>t
  ·exact absurd ((PV.int.inj j).symm.trans h1) h2
  ·exact absurd ((PV.int.inj j).trans h2) h1
  ·exact Pp (Axg ..) fun _=>t
theorem Ao8 (cell:Nat):∀l j:Lab,Tt l->Tt j->Abu cell l=Abu cell j->l=j
 |[],[],_,_,_=>rfl
 |[],q'::j,_,h',e=>by
  obtain⟨Y,g,_,_,K⟩:=Pk cell q' j (h' q' (An ..)).1 (h' q' (An ..)).2;rw[K] at e;cases e
 |q::l,[],h,_,e=>by
  obtain⟨Y,g,_,_,K⟩:=Pk cell q l (h q (An ..)).1 (h q (An ..)).2;cases K.symm.trans e
 |q::l,q'::j,h,h',e0=>by
  obtain⟨u,H⟩:=h q (An ..);obtain⟨i,d⟩:=h' q' (An ..);refine exe2 (Pk cell q l u H) fun r x c=>?_;obtain⟨R,I,e⟩:=c;refine exe2 (Pk cell q' j i d) fun Y g z=>?_;obtain⟨f,b,K⟩:=z;rw[e,K] at e0;simp only[List.cons.injEq,PV.int.injEq] at e0;obtain⟨v,k,_,o,m⟩:=e0;have hq:Kv (qOf cell q.1)=Kv (qOf cell q'.1):=by rw[I,b,v,k]
  have:=Awv (cell%6+3*q.1-3) (Ah (Go (Ax (Ai (Cr _ (by decide))) (Au _ H)) _) (by decide)) (cell%6+3*q'.1-3) (Ah (Go (Ax (Ai (Cr _ (by decide))) (Au _ d)) _) (by decide)) (by unfold qOf at hq;rw[hq]);have W:q=q':=A87 (A0f u i this) (Int.ofNat.inj o);rw[W,Ao8 cell l j (fun a M=>h a (A4 _ M)) (fun a M=>h' a (A4 _ M)) m]
theorem Av7 (cell:Nat){l l':Lab}(h:Tt l)(h':Tt l')(e:Ij cell l=Ij cell l'):l=l':=by
 unfold Ij at e;have e:=PV.list.inj e;exact Ao8 cell l l' h h' (List.append_cancel_left e)
theorem Apr (cell:Nat){L:List Lab}(E:∀l∈L,Tt l)(nd:L.Nodup):Nm (L.map (Ij cell)) where
 lst:=fun x R=>by
  obtain⟨l,_,rfl⟩:=Bj.mp R;exact(⟨_,rfl⟩)
 cmp:=fun x R y T=>by
  obtain⟨l,N,rfl⟩:=Bj.mp R;obtain⟨j,c,rfl⟩:=Bj.mp T;show(ltL (.int 0::.str "ring"::Abu cell l) (.int 0::.str "ring"::Abu cell j)).isSome=true;exact Pp (.ie 0) fun _=>Pp (.se _) fun _=>Ao7 cell l j (E l N) (E j c)
 nd:=by
  induction L with
  |nil=>exact A84
  |cons a r J=>
   obtain⟨U,O⟩:=C4.mp nd;refine C4.mpr ⟨fun z=>?_,J (fun l N=>E l (A4 _ N)) O⟩;obtain⟨b,Y,e⟩:=Bj.mp z;exact U (Av7 cell (E b (A4 _ Y)) (E a (An ..)) e▸Y)
theorem Av8 (cell:Nat){l:Lab}(h:Tt l):okF 7 (Ij cell l)=true:=by
 have I:∀q∈Iv,∀n:Nat,(M0 (q,n)).all (okF 6)=true:=by
  have h:∀q∈Iv,(Kv q).all (okF 6)=true:=by decide+kernel
  intro q hq n;unfold M0;rw[Mb,h q hq];rfl
 show Aip ([PV.int 0,PV.str "ring"]++l.flatMap fun q=>M0 (qOf cell q.1,q.2)) (okF 6)=true;rw[Mb,Adm,show Aip [PV.int 0,PV.str "ring"] (okF 6)=true by decide+kernel,Fv];exact Bd.mpr fun q hq=>I _ (Q0 cell (h q hq).1 (h q hq).2) _
theorem Y1 {p t S f:Nat->Nat}{L:List Lab}(h:I8 p t L S f)(Y:Bnd p t):∀l∈L,Tt l:=fun l N q hq=>⟨(((Af5 h Y).2 l N).1 q hq).1,(((Af5 h Y).2 l N).1 q hq).2.1⟩
theorem Af3 {Z:Mu}{i cell:Nat}{L:List Lab}(h:Z[i]?=some (some (.lst (L.map (Ij cell)))))(E:∀l∈L,Tt l)(A:L.Nodup)(a:L.length<64):Aap [.mu i] Z=some (.p (.list (L6 (L.map (Ij cell)))),Z):=by
 show((E0 Z (.mu i)).bind _)=_;rw[Qy h];exact if_pos ⟨Apr cell E A,by simpa using a⟩
section
theorem Amd:∀r∈Og,r∈L4:=by decide+kernel
theorem Arm:∀l∈L4,4<=l.length->∀v<5,v∈l++[0]:=by decide+kernel
theorem Anm {l:List Nat}(h:l≠[]):(A8 l).getLast?=some (.int (l.getLast?.getD 0:Nat)):=by
 unfold A8;rw[List.getLast?_map];cases e:l.getLast? with
 |none=>exact absurd (Alr.mp e) h
 |some x=>rfl
theorem W8 {l:List Nat}(h:l≠[]):l.getLast?.getD 0∈l:=by
 cases e:l.getLast? with
 |none=>exact absurd (Alr.mp e) h
 |some x=>exact Atj e
theorem Ap2 {Z:Mu}(m:List Nat)(k:Nat):niF (.p (.int (k:Nat))) (.p (.list (A8 m))) Z=some (.p (.bool (!decide (k∈m))),Z):=by
 have:=Ue (Z:=Z) m k;unfold inF at this;unfold niF;simp only[S3,qc] at this |-
 cases h:inP (.int (k:Nat)) (.list (A8 m)) with
 |none=>rw[h] at this;cases this
 |some b=>rw[h] at this;simp only[qd] at this |-;simp at this;rw[this]
theorem A48 {Z:Mu}{i:Nat}{a b:List PV}(M:Z[i]?=some (some (.lst a)))(h:a.length+b.length<=16777216):Fg (.mu i) (.p (.list b)) Z=some (.p (.list (a++b)),Z):=Gh (Qy M) (if_pos h)
theorem Baz {Z:Mu}{i:Nat}{m:List Nat}(L:Z[i]?=some (some (.lst (A8 m))))(h:m≠[]):Anb [.mu i] Z=some (.p (.int (Ny m:Nat)),Z):=Akc (Qy L) h
theorem Amg {i:Nat}{l:List PV}{x:PV}{y:MV}{Z a:Mu}(O:frzV y Z=some (x,a))(h:a[i]?=some (some (.lst l)))(N:l.length<=16777216):Ix [.mu i,y] Z=some (.p .none,a.set i (some (.lst (l++[x])))):=by
 show(frzV y Z).bind _=_;rw[O];show(Lq a i).bind _=_;rw[K4 h];exact if_pos N
theorem A53 {j:Nat}{l:List PV}{Z:Mu}(h:Z[j]?=some (some (.lst l))):frzV (.mu j) Z=some (.list l,Z.set j none):=by
 show(match Z[j]? with|some (some (.lst l))=>_|_=>_)=_;rw[h]
theorem A5e {Z:Mu}{i j:Nat}{l b:List PV}(E:Z[j]?=some (some (.lst b)))(H:(Z.set j none)[i]?=some (some (.lst l)))(N:l.length<=16777216):Ix [.mu i,.mu j] Z=some (.p .none,(Z.set j none).set i (some (.lst (l++[.list b])))):=Amg (A53 E) H N
section
variable {a b n cell:Nat}{Z0z:Mu}{K:List PV}{X:Mu}{p t:Nat->Nat}
variable {x7 x8 x9 x10:Option MV}
noncomputable def anF (a b n cell:Nat)(x:List (Option MV)):Sl:=some (.mu a)::some (.mu b)::some (.p (.int (cell:Nat)))::some (.mu n)::some (.mu (n+1))::some (.mu (n+2))::some (.mu (n+3))::x
theorem Aa9 {l:List Nat}(Y:Bnd p t)(I:l≠[])(q:l.length<=4)(j:∀v∈l,1<=v/\v<=4){i:Nat}(H:(Mm Z0z (Ao p) (Ap p) (A9 t) K X)[i]?=some (some (.lst (A8 l)))):
  Cm (fcF (Fq 1 1 Hj)) (Ak (bE D6 (vE 4) (bE D6 (vE 10) (uE Ku (kE (.int 1))))) Bk) (anF a b Z0z.length cell [x7,x8,x9,some (.mu i)]) (Mm Z0z (Ao p) (Ap p) (A9 t) K X)=
   some (.p (.int (arw p (l.getLast?.getD 0):Nat)),Mm Z0z (Ao p) (Ap p) (A9 t) K X):=by
 refine Aa fun C=>?_;obtain⟨U,G⟩:=j _ (W8 I);refine C ?_;have h:(A8 l).length=l.length:=by unfold A8;exact Bn ..
 generalize d:Mm Z0z (Ao p) (Ap p) (A9 t) K X=M at H;have e:M[Z0z.length+1]?=some (some (.lst (Ap p))):=by rw[<-d];exact Atw ..
 unfold anF;simp only[Cm,Ak,Bk,bE,uE,vE,kE,qe,qf,qc,Zn,A01 H (show _<=16777216 from(Ab (Ab (Aj h) q) (by decide))) (Anm I),
  Pm e (On _) (Of (fun v=>Ej (p v)) (show l.getLast?.getD 0<5 from(Ah G (by decide)))),Aja (Y.p_lt U G),Yg p U G]
theorem Az8 {l:List Nat}(Y:Bnd p t)(I:l≠[])(q:l.length<=4)(j:∀v∈l,1<=v/\v<=4){i:Nat}(H:(Mm Z0z (Ao p) (Ap p) (A9 t) K X)[i]?=some (some (.lst (A8 l)))):
  Wm (anF a b Z0z.length cell [x7,x8,x9,some (.mu i)]) (Mm Z0z (Ao p) (Ap p) (A9 t) K X)=some (!decide (arw p (l.getLast?.getD 0)∈l++[0]),Mm Z0z (Ao p) (Ap p) (A9 t) K X):=by
 have h:(A8 l).length=l.length:=by unfold A8;exact Bn ..
 have D:bE Fg (vE 10) (Mr (Ak (kE (.int 0)) Bk)) (anF a b Z0z.length cell [x7,x8,x9,some (.mu i)]) (Mm Z0z (Ao p) (Ap p) (A9 t) K X)=some (.p (.list (A8 (l++[0]))),Mm Z0z (Ao p) (Ap p) (A9 t) K X):=by
  unfold anF;simp only[Ak,Bk,bE,vE,kE,qe,qf,qc,qd,qi,qj,Nat.reduceLeDiff,reduceIte,Cg,Kf,Kg,Mr];rw[A48 H (by simp only[qi,qj];exact Ab (A3 (Ab (Aj h) q)) (by decide))];unfold A8;rw[F5];rfl
 unfold Wm;simp only[tB,Wq (Aa9 (a:=a) (b:=b) (cell:=cell) (x7:=x7) (x8:=x8) (x9:=x9) Y I q j H) D,Ap2,qc,Ml,qd]
theorem Az7 {l:List Nat}(Y:Bnd p t)(I:l≠[])(q:l.length<=4)(j:∀v∈l,1<=v/\v<=4):
  T9 (anF a b Z0z.length cell [x7,x8,x9,some (.mu (Z0z.length+4+X.length))]) (Mm Z0z (Ao p) (Ap p) (A9 t) K (X++[some (.lst (A8 l))]))=
   some (.next,anF a b Z0z.length cell [x7,x8,x9,some (.mu (Z0z.length+4+X.length))],Mm Z0z (Ao p) (Ap p) (A9 t) K (X++[some (.lst (A8 (l++[arw p (l.getLast?.getD 0)])))])):=by
 have h:(A8 l).length=l.length:=by unfold A8;exact Bn ..
 have f:vE 10 (anF a b Z0z.length cell [x7,x8,x9,some (.mu (Z0z.length+4+X.length))]) (Mm Z0z (Ao p) (Ap p) (A9 t) K (X++[some (.lst (A8 l))]))=some (.mu (Z0z.length+4+X.length),Mm Z0z (Ao p) (Ap p) (A9 t) K (X++[some (.lst (A8 l))])):=rfl;unfold T9 Aeo;simp only[B5,E5,H5,Gq,f,qc,Z4 (Pa Z0z (Ao p) (Ap p) (A9 t) K X (A8 l)),if_true,Ak,(Aa9 (a:=a) (b:=b) (cell:=cell) (x7:=x7) (x8:=x8) (x9:=x9) Y I q j (Pa Z0z (Ao p) (Ap p) (A9 t) K X (A8 l))),Bk,Yd (Pa Z0z (Ao p) (Ap p) (A9 t) K X (A8 l)) (show(A8 l).length<=16777216 from(Ab (Ab (Aj h) q) (by decide))),qd,Aaw];have:(X++[some (MO.lst (A8 l))]).set X.length (some (.lst (A8 l++[.int (arw p (l.getLast?.getD 0):Nat)])))=X++[some (.lst (A8 (l++[arw p (l.getLast?.getD 0)])))]:=by
  rw[G7 _ _ (At _),As1];unfold A8;rw[F5];rfl
 rw[this]
theorem Aop (Y:Bnd p t):∀(k n:Nat) (l:List Nat),l≠[]->l.Nodup->(∀v∈l,1<=v/\v<=4)->4<=l.length+k->k<n->
  F8 Wm T9 n (anF a b Z0z.length cell [x7,x8,x9,some (.mu (Z0z.length+4+X.length))]) (Mm Z0z (Ao p) (Ap p) (A9 t) K (X++[some (.lst (A8 l))]))=
   some (.next,anF a b Z0z.length cell [x7,x8,x9,some (.mu (Z0z.length+4+X.length))],Mm Z0z (Ao p) (Ap p) (A9 t) K (X++[some (.lst (A8 (Su (arw p) k l)))]))
 |k,0,_,_,_,_,_,H=>absurd H (Vc _)
 |k,n+1,l,I,A,j,G,H=>by
  have q:=(M2 l (Pu j A I)).1;have e:=Az8 (a:=a) (b:=b) (cell:=cell) (x7:=x7) (x8:=x8) (x9:=x9) Y I q j (Pa Z0z (Ao p) (Ap p) (A9 t) K X (A8 l));rw[Alg];rw[e,qc];by_cases f:arw p (l.getLast?.getD 0)∈l++[0]
  ·simp only[decide_eq_true f,Bbi,Ch,if_false];have:Su (arw p) k l=l:=by
    cases k with
    |zero=>rfl
    |succ k=>exact if_pos (by simpa using f)
   rw[this]
  ·simp only[decide_eq_false f,A8w,if_true];rw[Az7 Y I q j,qc];cases k with
   |zero=>exact absurd (Arm l (Pu j A I) G _ (by have:=Yh p (j _ (W8 I)).2;exact Ah this (by decide))) f
   |succ k=>
    have M:Su (arw p) (k+1) l=Su (arw p) k (l++[arw p (l.getLast?.getD 0)]):=by
     conv=>lhs;rw[Apl]
     rw[if_neg (by simpa using f)]
    rw[M];have R:arw p (l.getLast?.getD 0)∉l/\arw p (l.getLast?.getD 0)≠0:=by
     simp only[B6,A6,not_or] at f;exact f
    have o:=Yh p (j _ (W8 I)).2;exact Aop Y k n (l++[arw p (l.getLast?.getD 0)]) (by simp) (Hp.mpr ⟨A,by simp,fun u g w B=>by rw[A6.mp B];exact fun e=>R.1 (e▸g)⟩)
     (fun v F=>by
      rcases B6.mp F with F|F
      ·exact j v F
      ·rw[A6.mp F];exact⟨(Ha R.2),o⟩) (by simp;lia) (Ai H)
noncomputable def Gj (RL:List (List Nat)):List PV:=RL.map fun r=>.list (A8 r)
theorem Arn (p:Nat->Nat){s:Nat}(U:1<=s)(G:s<=4):Su (arw p) 4 [s]∈L4/\Su (arw p) 4 [s]≠[]:=by
 have key:∀k l,l≠[]->l.Nodup->(∀v∈l,1<=v/\v<=4)->Su (arw p) k l∈L4:=fun k=>by
  induction k with
  |zero=>intro l I A j;exact Pu j A I
  |succ k J=>
   intro l I A j;rw[Apl];split
   ·exact Pu j A I
   ·rename_i f;have R:arw p (l.getLast?.getD 0)∉l/\arw p (l.getLast?.getD 0)≠0:=by simpa using f
    have o:=Yh p (j _ (W8 I)).2;exact J _ (by simp) (Hp.mpr ⟨A,by simp,fun u g w B=>by rw[A6.mp B];exact fun e=>R.1 (e▸g)⟩)
     (fun v F=>by
      rcases B6.mp F with F|F
      ·exact j v F
      ·rw[A6.mp F];exact⟨(Ha R.2),o⟩)
 have:=key 4 [s] (by simp) (by simp) (by simp;exact⟨U,G⟩);exact⟨this,(M2 _ this).2.1⟩
theorem Aui (Y:Bnd p t){s j:Nat}(U:1<=s)(G:s<=4){RL:List (List Nat)}(Q:RL.length<=10)(m:X[j]?=some (some (.lst (Gj RL)))):
  ∃g k,Aag (anF a b Z0z.length cell [x7,some (.mu (Z0z.length+4+j)),some (.p (.int (s:Nat))),x10]) (Mm Z0z (Ao p) (Ap p) (A9 t) K X)=
   some (.next,anF a b Z0z.length cell [x7,some (.mu (Z0z.length+4+j)),some (.p (.int (s:Nat))),g],Mm Z0z (Ao p) (Ap p) (A9 t) K k)/\k[j]?=some (some (.lst (Gj (RL++W2 (arw p) s)))):=by
 have E:j<X.length:=(Aq.mp m).1;have W:Agy (anF a b Z0z.length cell [x7,some (.mu (Z0z.length+4+j)),some (.p (.int (s:Nat))),x10]) (Mm Z0z (Ao p) (Ap p) (A9 t) K X)=
   some (.next,anF a b Z0z.length cell [x7,some (.mu (Z0z.length+4+j)),some (.p (.int (s:Nat))),some (.mu (Z0z.length+4+X.length))],Mm Z0z (Ao p) (Ap p) (A9 t) K (X++[some (.lst (A8 [s]))])):=by
  unfold Agy anF;simp only[Cp,K3,Cp,Ak,Bk,vE,Bc,qe,qf,qc,qd,qi,qj,qg,qh,Nat.reduceLeDiff,reduceIte,Cg,Kf,Kg,R2,Te];rfl
 have D:Aom (anF a b Z0z.length cell [x7,some (.mu (Z0z.length+4+j)),some (.p (.int (s:Nat))),some (.mu (Z0z.length+4+X.length))]) (Mm Z0z (Ao p) (Ap p) (A9 t) K (X++[some (.lst (A8 [s]))]))=_:=
  Aop Y 4 100 [s] (by simp) (by simp) (by simp;exact⟨U,G⟩) (by simp) (by decide)
 obtain⟨v,i⟩:=Arn p U G;unfold Aag;rw[Bw W,Bw D];generalize N:Su (arw p) 4 [s]=l at v i;refine Aa fun P=>?_;obtain⟨o,_,_,w⟩:=M2 l v;refine P ?_;have u:W2 (arw p) s=if(arw p (l.getLast?.getD 0)==s&&s==Ny l)=true then[l] else[]:=by unfold W2;rw[N]
 have A:Aa8 (anF a b Z0z.length cell [x7,some (.mu (Z0z.length+4+j)),some (.p (.int (s:Nat))),some (.mu (Z0z.length+4+X.length))]) (Mm Z0z (Ao p) (Ap p) (A9 t) K (X++[some (.lst (A8 l))]))=some ((arw p (l.getLast?.getD 0)==s&&s==Ny l),Mm Z0z (Ao p) (Ap p) (A9 t) K (X++[some (.lst (A8 l))])):=by
  have n:∀x y:Nat,((x:Int)==(y:Int))=(x==y):=fun x y=>by rw[Hv,beq_iff_eq,beq_iff_eq];exact Ie
  have q:vE 9 (anF a b Z0z.length cell [x7,some (.mu (Z0z.length+4+j)),some (.p (.int (s:Nat))),some (.mu (Z0z.length+4+X.length))]) (Mm Z0z (Ao p) (Ap p) (A9 t) K (X++[some (.lst (A8 l))]))=some (.p (.int (s:Nat)),Mm Z0z (Ao p) (Ap p) (A9 t) K (X++[some (.lst (A8 l))])):=rfl;have c:vE 10 (anF a b Z0z.length cell [x7,some (.mu (Z0z.length+4+j)),some (.p (.int (s:Nat))),some (.mu (Z0z.length+4+X.length))]) (Mm Z0z (Ao p) (Ap p) (A9 t) K (X++[some (.lst (A8 l))]))=some (.mu (Z0z.length+4+X.length),Mm Z0z (Ao p) (Ap p) (A9 t) K (X++[some (.lst (A8 l))])):=rfl;have f:Cm Anb (Ak (vE 10) Bk) (anF a b Z0z.length cell [x7,some (.mu (Z0z.length+4+j)),some (.p (.int (s:Nat))),some (.mu (Z0z.length+4+X.length))]) (Mm Z0z (Ao p) (Ap p) (A9 t) K (X++[some (.lst (A8 l))]))=some (.p (.int (Ny l:Nat)),Mm Z0z (Ao p) (Ap p) (A9 t) K (X++[some (.lst (A8 l))])):=by
   simp only[Cm,Ak,Bk,c,qc,Baz (Pa Z0z (Ao p) (Ap p) (A9 t) K X (A8 l)) i]
  unfold Aa8;simp only[Ads,tB,Wq (Aa9 (a:=a) (b:=b) (cell:=cell) (x7:=x7) (x8:=some (.mu (Z0z.length+4+j))) (x9:=some (.p (.int (s:Nat)))) Y i o w (Pa Z0z (Ao p) (Ap p) (A9 t) K X (A8 l))) q,To,qc,Ml,qd,n];cases U:(arw p (l.getLast?.getD 0)==s) with
  |false=>rfl
  |true=>
   simp only[if_true,Wq q f,To,qc,Ml,qd,n,Fv,Vo];cases O:(s==Ny l)<;>rfl
 unfold Aon;have h:(X++[some (MO.lst (A8 l))])[j]?=some (some (.lst (Gj RL))):=by rw[Cz E];exact m
 cases L:(arw p (l.getLast?.getD 0)==s&&s==Ny l) with
 |false=>
  refine exi2 (some (.mu (Z0z.length+4+X.length))) (X++[some (.lst (A8 l))]) ⟨?_,?_⟩
  ·simp only[B5,ifX,A,L,qc,Ch,if_false,E5]
  ·rw[u,L,if_neg (by decide),Ct];exact h
 |true=>
  have d:((Mm Z0z (Ao p) (Ap p) (A9 t) K (X++[some (.lst (A8 l))])).set (Z0z.length+4+X.length) none)[Z0z.length+4+j]?=some (some (.lst (Gj RL))):=by
   rw[Aaw,Zz,Gf (Ga E)];exact h
  have e:Y6 "list" (Mm Z0z (Ao p) (Ap p) (A9 t) K (X++[some (.lst (A8 l))])) (.mu (Z0z.length+4+j))=true:=Z4 (l:=Gj RL) (by rw[Zz];exact h);have r:(Gj RL).length<=16777216:=by unfold Gj;rw[Bn];exact Ab Q (by decide)
  refine exi2 (some (.mu (Z0z.length+4+X.length))) (((X++[some (MO.lst (A8 l))]).set X.length none).set j (some (MO.lst (Gj RL++[PV.list (A8 l)])))) ⟨?_,?_⟩
  ·unfold Aeq Aep;simp only[B5,ifX,A,L,qc,if_true,H5,Gq];have I:vE 8 (anF a b Z0z.length cell [x7,some (.mu (Z0z.length+4+j)),some (.p (.int (s:Nat))),some (.mu (Z0z.length+4+X.length))]) (Mm Z0z (Ao p) (Ap p) (A9 t) K (X++[some (.lst (A8 l))]))=some (.mu (Z0z.length+4+j),Mm Z0z (Ao p) (Ap p) (A9 t) K (X++[some (.lst (A8 l))])):=rfl;have c:vE 10 (anF a b Z0z.length cell [x7,some (.mu (Z0z.length+4+j)),some (.p (.int (s:Nat))),some (.mu (Z0z.length+4+X.length))]) (Mm Z0z (Ao p) (Ap p) (A9 t) K (X++[some (.lst (A8 l))]))=some (.mu (Z0z.length+4+X.length),Mm Z0z (Ao p) (Ap p) (A9 t) K (X++[some (.lst (A8 l))])):=rfl;simp only[I,qc,e,if_true,Ak,Bk,c,A5e (Pa Z0z (Ao p) (Ap p) (A9 t) K X (A8 l)) d r,qd,E5,Aaw]
  ·rw[Fe (by simp;exact Nat.lt_add_one_of_lt E),u,L,if_pos rfl];unfold Gj;rw[F5];rfl
end
end
section
theorem A0x {q:IM}{nx:Nx}{t:TM}{b:SM}{V:Sl}{Z:Mu}{items:List MV}(p:q V Z=some (nx,items.length,Z))(h:∀j Z',nx j Z'=some (items[j]?)):R8 q t b V Z=Eo t b items V Z:=by
 unfold R8;simp only[p,qc];rw[R7 (items:=items) h _ 0 _ _ (by simp) (by simp),Gy]
theorem A0y {t:TM}{b:SM}{d:MV}{r:List MV}{V V1z c:Sl}{Z a h:Mu}(U:t V Z d=some (V1z,a))(O:b V1z a=some (.brk,c,h)):Eo t b (d::r) V Z=some (.next,c,h):=by
 rw[Aby];simp only[U,O,qc]
structure Bt (p t:Nat->Nat):Prop where
 b:Bnd p t
 t:∀v,1<=v->v<=4->t v+lg (p v)<=4
theorem Bt.take {p t:Nat->Nat}(h:Bt p t){c:List Nat}(L:c∈Og)(j:isR (arw p) c=true):Bt (Ds c p) (Gk c t) where
 b:=h.b.take c
 t:=fun v U G=>by
  have:=h.t v U G;unfold Ds Gk;by_cases F:v∈c
  ·rw[if_pos F,if_pos F];have:=Awb (Rp L j F) (h.b.p_lt U G);lia
  ·rw[if_neg F,if_neg F];exact this
theorem Bt.small {p t:Nat->Nat}(h:Bt p t):∀k,1<=k->k<=4->t k<100:=fun k U G=>by exact Ah (Bm (h.t k U G)) (by decide)
section
variable {a b n cell:Nat}{Z0z:Mu}{K:List PV}{X:Mu}{p t:Nat->Nat}
variable {x7 x8 x9 x10:Option MV}
theorem Aer (Y:Bnd p t){j:Nat}:∀(l:List Nat) (RL:List (List Nat)) (X:Mu) (x9 x10:Option MV),(∀s∈l,1<=s/\s<=4)->RL.length+l.length<=10->X[j]?=some (some (.lst (Gj RL)))->
  ∃o g k,Eo (Bc 9) Aag (l.map fun(s:Nat)=>.p (.int (s:Nat))) (anF a b Z0z.length cell [x7,some (.mu (Z0z.length+4+j)),x9,x10]) (Mm Z0z (Ao p) (Ap p) (A9 t) K X)=
   some (.next,anF a b Z0z.length cell [x7,some (.mu (Z0z.length+4+j)),o,g],Mm Z0z (Ao p) (Ap p) (A9 t) K k)/\k[j]?=some (some (.lst (Gj (RL++l.flatMap (W2 (arw p))))))
 |[],RL,X,x9,x10,_,_,m=>exi3 x9 x10 X ⟨rfl,by simpa using m⟩
 |s::l,RL,X,x9,x10,N,Q,m=>by
  refine Aa fun C=>?_;obtain⟨U,G⟩:=N s (An ..);refine exe2 (Aui (a:=a) (b:=b) (cell:=cell) (Z0z:=Z0z) (K:=K) (X:=X) (t:=t) (x7:=x7) (x10:=x10) Y (j:=j) U G (RL:=RL) (Bm Q) m) fun g c w=>?_;obtain⟨W,e⟩:=w;have O:(W2 (arw p) s).length<=1:=by unfold W2;dsimp only;split<;>simp
  refine exe3 (Aer Y l (RL++W2 (arw p) s) c (some (.p (.int (s:Nat)))) g (fun v F=>N v (A4 _ F)) (by simp at Q |-;lia) e) fun A z n u=>?_;obtain⟨D,B⟩:=u;refine C ?_;refine exi3 A z n ⟨?_,?_⟩
  ·rw[qk,Tq (V1z:=anF a b Z0z.length cell [x7,some (.mu (Z0z.length+4+j)),some (.p (.int (s:Nat))),x10]) rfl W,D]
  ·rw[B,Ng,Az]
theorem Avg {Z:Mu}{i:Nat}{RL:List (List Nat)}(h:Z[i]?=some (some (.lst (Gj RL)))):eqF (.mu i) (.p (.list [])) Z=some (.p (.bool RL.isEmpty),Z):=by
 have w:okF 8 (.list (Gj RL))=true:=by
  show(Gj RL).all (okF 7)=true;unfold Gj;rw[Aqr];refine Bd.mpr fun r _=>?_;show(A8 r).all (okF 6)=true;unfold A8;rw[Aqr];exact Bd.mpr fun v _=>rfl
 simp only[eqF,S3,h,qc];have:eqP (.list (Gj RL)) (.list [])=some RL.isEmpty:=by
  show(if okF 8 (.list (Gj RL))=true/\okF 8 (.list [])=true then some ((PV.list (Gj RL)).py.eqv (PV.list []).py) else none)=_;rw[if_pos ⟨w,rfl⟩];cases RL with
  |nil=>rfl
  |cons r RL=>rfl
 rw[this];rfl
theorem A1v (a b:Nat)(M:a<2^900)(Y:b<=1000){Z:Mu}{a':Int}(e:a'=(a:Int)):i2 Acr (.p (.int a')) (.p (.int (b:Int))) Z=some (.p (.int ((a^b:Nat):Int)),Z):=by
 subst e;dsimp only[i2,Acr];rw[if_pos ⟨by rw[Dw];exact Aht M,(By _),(D7.mpr (by assumption))⟩];rfl
theorem Ano (f:Nat->Nat):Lc f=([1,2,3,4]:List Nat).flatMap (W2 f):=by unfold Lc;simp
theorem Az9 (Y:Bt p t)(u:K.length<=1000){i:Nat}(H:i<14):
  (Lc (arw p)=[]/\∃w o g k,Ai5 (anF a b Z0z.length cell [some (.p (.int (i:Nat))),x8,x9,x10]) (Mm Z0z (Ao p) (Ap p) (A9 t) K X)=some (.brk,anF a b Z0z.length cell [some (.p (.int (i:Nat))),w,o,g],Mm Z0z (Ao p) (Ap p) (A9 t) K k))\/
  ∃c∈Lc (arw p),∃w o g k,Ai5 (anF a b Z0z.length cell [some (.p (.int (i:Nat))),x8,x9,x10]) (Mm Z0z (Ao p) (Ap p) (A9 t) K X)=
   some (.next,anF a b Z0z.length cell [some (.p (.int (i:Nat))),w,o,g],Mm Z0z (Ao (Ds c p)) (Ap (Ds c p)) (A9 (Gk c t)) (K++[W7 cell c t]) k):=by
 have W:Auf (anF a b Z0z.length cell [some (.p (.int (i:Nat))),x8,x9,x10]) (Mm Z0z (Ao p) (Ap p) (A9 t) K X)=some (.next,anF a b Z0z.length cell [some (.p (.int (i:Nat))),some (.mu (Z0z.length+4+X.length)),x9,x10],Mm Z0z (Ao p) (Ap p) (A9 t) K (X++[some (.lst (Gj []))])):=by
  unfold Auf anF;simp only[Cp,K3,Cp,Bk,Bc,qc,qd,qj,qg,qh,Nat.reduceLeDiff,reduceIte,Kf,Kg,R2,Te];rfl
 refine exe3 (Aer (a:=a) (b:=b) (cell:=cell) (Z0z:=Z0z) (K:=K) (t:=t) (x7:=some (.p (.int (i:Nat)))) Y.b (j:=X.length) [1,2,3,4] [] (X++[some (.lst (Gj []))]) x9 x10 (by decide) (by decide) (by simp)) fun o g n z=>?_;have D:=z.1;have B:=z.2;have r:Aug (anF a b Z0z.length cell [some (.p (.int (i:Nat))),some (.mu (Z0z.length+4+X.length)),x9,x10]) (Mm Z0z (Ao p) (Ap p) (A9 t) K (X++[some (.lst (Gj []))]))=some (.next,anF a b Z0z.length cell [some (.p (.int (i:Nat))),some (.mu (Z0z.length+4+X.length)),o,g],Mm Z0z (Ao p) (Ap p) (A9 t) K n):=by
  unfold Aug Auh;exact D
 rw[qm,<-Ano] at B;have G:(Mm Z0z (Ao p) (Ap p) (A9 t) K n)[Z0z.length+4+X.length]?=some (some (.lst (Gj (Lc (arw p))))):=by rw[Zz];exact B
 have I:∀M,vE 8 (anF a b Z0z.length cell [some (.p (.int (i:Nat))),some (.mu (Z0z.length+4+X.length)),o,g]) M=some (.mu (Z0z.length+4+X.length),M):=fun _=>rfl;have A:Amf (anF a b Z0z.length cell [some (.p (.int (i:Nat))),some (.mu (Z0z.length+4+X.length)),o,g]) (Mm Z0z (Ao p) (Ap p) (A9 t) K n)=some ((Lc (arw p)).isEmpty,Mm Z0z (Ao p) (Ap p) (A9 t) K n):=by
  unfold Amf;simp only[tB];rw[Wq (I _) (y:=.p (.list [])) rfl,Avg G];rfl
 have f:=Agz p;unfold Ai5;rw[Bw W,Bw r];generalize P:Lc (arw p)=Rs at *;cases Rs with
 |nil=>
  refine .inl ⟨rfl,some (.mu (Z0z.length+4+X.length)),o,g,n,?_⟩;unfold Aoo;simp only[B5,ifX,A,qc,List.isEmpty_nil,if_true];rfl
 |cons d Rs=>
  have C:Aoo (anF a b Z0z.length cell [some (.p (.int (i:Nat))),some (.mu (Z0z.length+4+X.length)),o,g]) (Mm Z0z (Ao p) (Ap p) (A9 t) K n)=some (.next,anF a b Z0z.length cell [some (.p (.int (i:Nat))),some (.mu (Z0z.length+4+X.length)),o,g],Mm Z0z (Ao p) (Ap p) (A9 t) K n):=by
   unfold Aoo;simp only[ifX,A,qc,A22,Ch,if_false];rfl
  rw[Bw C];have N:(Gj (d::Rs)).length=(d::Rs).length:=by unfold Gj;exact Bn ..
  have J:(d::Rs).length≠0:=by simp
  have q:(d::Rs).length<=4:=by
   rw[<-P];unfold Lc;have O:∀s,(W2 (arw p) s).length<=1:=fun s=>by unfold W2;dsimp only;split<;>simp
   have:=O 1;have:=O 2;have:=O 3;have:=O 4;simp only[As];lia
  have R:cell/7^i%(d::Rs).length<(d::Rs).length:=Cr _ (Br _ _);obtain⟨c,L⟩:∃c,(d::Rs)[cell/7^i%(d::Rs).length]?=some c:=⟨_,Bx R⟩;have l:c∈d::Rs:=Bo L;have Q:(Gj (d::Rs))[cell/7^i%(d::Rs).length]?=some (.list (A8 c)):=by unfold Gj;rw[B0,L];rfl
  have S:7^i<2^900:=Ah (Er (by decide) (show i<=14 from(Ab (Ai H) (by decide)))) (by decide);have h:=Ak7 (m:=c) (cell:=cell) (Z0z:=Z0z) (K:=K) (rest:=n) (p:=p) (t:=t) (Amd c ((f c l).1)) u Y.small (fun v F=>by
    rw[((f c l).2.2)] at F;have x:=Jt c ((f c l).1) v F;have:=Rp ((f c l).1) ((f c l).2.1) F;exact⟨this,Y.b.p_lt x.1 x.2.1,Y.b.t_lt x.1 x.2.1 this⟩)
  rw[((f c l).2.2)] at h;refine .inr ⟨c,l,some (.mu (Z0z.length+4+X.length)),o,g,n,?_⟩;unfold A3n;have e:H5 (Cm (fcF (Fq 6 29 tkB)) (Ak (bE D6 (vE 8) (bE (i2 Jp) (bE (i2 Nu) (vE 2) (bE (i2 Acr) (kE (.int 7)) (vE 7))) (Cm Tw (Ak (vE 8) Bk)))) (Ak (vE 3) (Ak (vE 4) (Ak (vE 5) (Ak (vE 6) (Ak (vE 2) Bk))))))) (anF a b Z0z.length cell [some (.p (.int (i:Nat))),some (.mu (Z0z.length+4+X.length)),o,g]) (Mm Z0z (Ao p) (Ap p) (A9 t) K n)=
   some (.next,anF a b Z0z.length cell [some (.p (.int (i:Nat))),some (.mu (Z0z.length+4+X.length)),o,g],Mm Z0z (Ao (Ds c p)) (Ap (Ds c p)) (A9 (Gk c t)) (K++[W7 cell c t]) n):=by
   have E:((Gj (d::Rs)).length:Int)=((d::Rs).length:Nat):=(congrArg _ (N));unfold anF;simp only[H5,Cm,Ak,Bk,bE,vE,kE,qe,qf,qc,A1v 7 i (by decide) (Ab (Ai H) (by decide)) (a':=7) rfl,Tm (a:=cell) (b:=7^i) rfl (Lu.mp (Xx (by decide))) S,
    Aca G (show(Gj (d::Rs)).length<=16384 from(Ab (Ab (Aj N) (Ab (Aj (Eq.symm N)) (Ab (Aj N) q))) (by decide))),Jd (a:=cell/7^i) E J,Pm G (show(Gj (d::Rs)).length<=16777216 from(Ab (Ab (Aj N) (Ab (Aj (Eq.symm N)) (Ab (Aj N) q))) (by decide))) Q,fcF,h,qd]
  rw[Bw e];rfl
end
end
section
theorem Apt {Z:Mu}{i:Nat}{l:List PV}(h:Z[i]?=some (some (.lst l)))(N:l.length<=16777216):Zm [.mu i] Z=some (.mu Z.length,Z++[some (.lst l)]):=Gh (K4 h) (if_pos N)
theorem Baf (Z:Mu):Ar6 (.p (.list [.str "."])) (.p (.int 5)) Z=some (.mu Z.length,Z++[some (.lst (A9 fun _=>0))]):=rfl
theorem Azj {p:Nat->Nat}(h:Ms p=0):NoR p:=fun c L=>by
 cases e:isR (arw p) c with
 |false=>rfl
 |true=>
  refine exe2 (K0 (Oy c L).2.1) fun v r j=>?_;subst j;obtain⟨U,G,_⟩:=Jt _ L v (An ..);have:=Rp L e (An ..);have N:1<=lg (p v):=A6o this;unfold Ms at h;have:v=1\/v=2\/v=3\/v=4:=(Abc G U);rcases this with rfl|rfl|rfl|rfl<;>lia
section
variable {a b n cell:Nat}{Z0z:Mu}{K:List PV}{X:Mu}{p t:Nat->Nat}
inductive AnL (a b cell:Nat)(Z0z:Mu)(is:List Nat)(p t:Nat->Nat)(K:List PV)(X:Mu)(x7 x8 x9 x10:Option MV):Prop
 |mk (L:List Lab)(p' t':Nat->Nat)(y7 y8 y9 y10:Option MV)(X':Mu)(e:Eo (Bc 7) Ai5 (is.map fun(i:Nat)=>.p (.int (i:Nat))) (anF a b Z0z.length cell [x7,x8,x9,x10]) (Mm Z0z (Ao p) (Ap p) (A9 t) K X)=
   some (.next,anF a b Z0z.length cell [y7,y8,y9,y10],Mm Z0z (Ao p') (Ap p') (A9 t') (K++L.map (Ij cell)) X'))(q1:I8 p t L p' t') (q2:NoR p'):AnL a b cell Z0z is p t K X x7 x8 x9 x10
theorem Ai6:∀(r:List Nat) (p t:Nat->Nat) (K:List PV) (X:Mu) (x7 x8 x9 x10:Option MV),Bt p t->Ms p<=r.length->(∀i∈r,i<14)->K.length+r.length<=1000->
  AnL a b cell Z0z r p t K X x7 x8 x9 x10
 |[],p,t,K,X,x7,x8,x9,x10,Y,d,_,_=>⟨[],p,t,x7,x8,x9,x10,X,by rw[ql,ql,Ct];rfl,.nil,Azj (Nat.le_zero.mp d)⟩
 |i::r,p,t,K,X,x7,x8,x9,x10,Y,d,H,u=>by
  rcases Az9 (a:=a) (b:=b) (cell:=cell) (Z0z:=Z0z) (K:=K) (X:=X) (x8:=x8) (x9:=x9) (x10:=x10) Y (Bm u) (H i (An ..)) with⟨hn,y8,y9,y10,X',e⟩|⟨c,hc,y8,y9,y10,X',e⟩
  ·exact⟨[],p,t,some (.p (.int (i:Nat))),y8,y9,y10,X',(A0y (V1z:=anF a b Z0z.length cell [some (.p (.int (i:Nat))),x8,x9,x10]) rfl e).trans (by rw[ql,Ct]),.nil,A5a p hn⟩
  ·have o:=(Agz p c hc).1;have B:=(Agz p c hc).2.1;have s:=(Agz p c hc).2.2;have w:=Agk Y.b o B;have m:=G4.mpr (Oy c o).2.1;obtain⟨L,S,f,h,k,l,g,n,D,y,C⟩:=Ai6 r (Ds c p) (Gk c t) (K++[W7 cell c t]) X' (some (.p (.int (i:Nat)))) y8 y9 y10 (Y.take o B) (by simp at d;lia) (fun j E=>H j (A4 _ E)) (by simp at u |-;exact Aba u);exact⟨lab c t::L,S,f,h,k,l,g,n,(Tq (V1z:=anF a b Z0z.length cell [some (.p (.int (i:Nat))),x8,x9,x10]) rfl e).trans (D.trans (by rw[Aj4,qk,Az];rfl)),.cons o B y,C⟩
theorem Aj7 {V:Sl}(I:V[0]?=some (some (.mu a)))(U:V[1]?=some (some (.mu b)))(M:Z0z[a]?=some (some (.lst (Ao p))))(Y:Z0z[b]?=some (some (.lst (Ap p)))):
  It (Ak (Cm Zm (Ak (vE 0) Bk)) (Ak (Cm Zm (Ak (vE 1) Bk)) (Ak (bE Ar6 (Mr (Ak (kE (.str ".")) Bk)) (kE (.int 5))) (Ak (K3 Bk) Bk)))) V Z0z=
   some (.tup [.mu Z0z.length,.mu (Z0z.length+1),.mu (Z0z.length+2),.mu (Z0z.length+3)],Mm Z0z (Ao p) (Ap p) (A9 fun _=>0) [] []):=by
 have d:(Z0z++[some (.lst (Ao p))])[b]?=some (some (.lst (Ap p))):=by rw[Cz (Aq.mp Y).1];exact Y
 have c:∀Z:Mu,vE 0 V Z=some (.mu a,Z):=fun Z=>by unfold vE;rw[I]
 have i:∀Z:Mu,vE 1 V Z=some (.mu b,Z):=fun Z=>by unfold vE;rw[U]
 simp only[It,Ak,Bk,Cm,c,i,qc,Apt M (On _),Apt d (On _),bE,Mr,kE,Kf,Kg,qd,qi,qj,Cg,Nat.reduceLeDiff,if_true,Baf,K3,As,Nat.reduceAdd,Dj,Az,qm,qo,mkTup];rfl
theorem A0a (M:Z0z[a]?=some (some (.lst (Ao p))))(Y:Z0z[b]?=some (some (.lst (Ap p))))(j:Bt p fun _=>0)(d:Ms p<=14):
  ∃L p' f,Fq 3 11 anB [.mu a,.mu b,.p (.int (cell:Nat))] Z0z=some (.list (L6 (L.map (Ij cell))),Z0z)/\I8 p (fun _=>0) L p' f/\NoR p':=by
 refine Aa fun P=>?_;obtain⟨L,p',f,m,w,o,g,k,D,y,C⟩:=Ai6 (a:=a) (b:=b) (cell:=cell) (Z0z:=Z0z) (Gb 14) p (fun _=>0) [] [] none none none none j (by exact d) (fun i H=>Aiq.mp H) (by decide);refine P ?_;refine exi3 L p' f ⟨?_,y,C⟩;have W:an1 (L1 11 [.mu a,.mu b,.p (.int (cell:Nat))]) Z0z=some (.next,anF a b Z0z.length cell [none,none,none,none],Mm Z0z (Ao p) (Ap p) (A9 fun _=>0) [] []):=by
  unfold an1;simp only[Cp,(Aj7 (a:=a) (b:=b) (Z0z:=Z0z) (p:=p) (V:=L1 11 [.mu a,.mu b,.p (.int (cell:Nat))]) rfl rfl M Y),qc];rfl
 have r:an2 (anF a b Z0z.length cell [none,none,none,none]) (Mm Z0z (Ao p) (Ap p) (A9 fun _=>0) [] [])=some (.next,anF a b Z0z.length cell [m,w,o,g],Mm Z0z (Ao p') (Ap p') (A9 f) ([]++L.map (Ij cell)) k):=by
  unfold an2 A9q;exact D
 have h:L.length<=14:=by have:=Y2 y j.b;lia
 have N:an3 (anF a b Z0z.length cell [m,w,o,g]) (Mm Z0z (Ao p') (Ap p') (A9 f) ([]++L.map (Ij cell)) k)=some (.ret (.p (.list (L6 (L.map (Ij cell))))),anF a b Z0z.length cell [m,w,o,g],Mm Z0z (Ao p') (Ap p') (A9 f) ([]++L.map (Ij cell)) k):=by
  have l:=Af3 (Z:=Mm Z0z (Ao p') (Ap p') (A9 f) ([]++L.map (Ij cell)) k) (i:=Z0z.length+3) (cell:=cell) (L:=L) (Al2 ..) (Y1 y j.b) (Acz y) (Ah (by assumption) (by decide));refine Kw (Ju (Bz rfl rfl) ?_)<;>first|exact l|rfl|assumption
 have I:anB (L1 11 [.mu a,.mu b,.p (.int (cell:Nat))]) Z0z=some (.ret (.p (.list (L6 (L.map (Ij cell))))),anF a b Z0z.length cell [m,w,o,g],Mm Z0z (Ao p') (Ap p') (A9 f) ([]++L.map (Ij cell)) k):=by
  unfold anB;rw[Bw W,Bw r];simp only[B5,N,qc]
 rw[Aah (np:=3) rfl I];unfold Mm;rw[K1]
end
end
section
theorem A38 {Z:Mu}{i:Nat}{l:List PV}(h:Z[i]?=some (some (.lst l))):S3 Z (.mu i)=some (.list l):=by show(match Z[i]? with|some (some (.lst l))=>_|_=>_)=_;rw[h]
theorem Aj0 {Z:Mu}{i:Nat}{m:List Nat}(h:Z[i]?=some (some (.lst (A8 m))))(k:Nat):inF (.p (.int (k:Nat))) (.mu i) Z=some (.p (.bool (decide (k∈m))),Z):=(Gh (x:=S3 Z (.mu i)) (f:=fun q=>(inP (.int (k:Nat)) q).map fun b=>(MV.p (.bool b),Z)) (A38 h) rfl).trans (Ue m k)
theorem Awr {Z:Mu}{i:Nat}{m:List Nat}(h:Z[i]?=some (some (.lst (A8 m))))(k:Nat):niF (.p (.int (k:Nat))) (.mu i) Z=some (.p (.bool (!decide (k∈m))),Z):=(Gh (x:=S3 Z (.mu i)) (f:=fun q=>(inP (.int (k:Nat)) q).map fun b=>(MV.p (.bool !b),Z)) (A38 h) rfl).trans (Ap2 m k)
theorem A05 {Z:Mu}{i:Nat}{m:List Nat}{x:Nat}(h:Z[i]?=some (some (.lst (A8 m))))(N:m.length<=64)(Y:∀v∈m,v<100)(R:x∈m):Yq [.mu i,.p (.int (x:Nat))] Z=some (.p (.int (m.idxOf x:Nat)),Z):=Ab5 (Qy h) N Y R
theorem Kq (m:List Nat):(A8 m).length=m.length:=by unfold A8;exact Bn ..
theorem Ank (m:List Nat)(k:Nat):(A8 m).drop k=A8 (m.drop k):=by unfold A8;rw[Bbm]
theorem Ann (m:List Nat)(k:Nat):(A8 m).take k=A8 (m.take k):=by unfold A8;rw[Alw]
theorem Af1 (m m':List Nat):A8 (m++m')=A8 m++A8 m':=by unfold A8;rw[F5]
theorem A7i {a:EM}{k H:PM}{x y:Option Int}{V:Sl}{Z:Mu}{i:Nat}{l:List PV}(M:a V Z=some (.mu i,Z))(U:k V Z=some (x,Z))(O:H V Z=some (y,Z))(z:Z[i]?=some (some (.lst l)))(N:l.length<=16777216):slE true a k H V Z=some (.mu Z.length,Z++[some (.lst (cut x y l))]):=Axj M U O (Gh (Qy z) (if_pos N))
theorem Ba5 {a:EM}{k H:PM}{x y:Option Int}{V:Sl}{Z:Mu}{i:Nat}{l:List PV}(M:a V Z=some (.mu i,Z))(U:k V Z=some (x,Z))(O:H V Z=some (y,Z))(z:Z[i]?=some (some (.lst l)))(N:l.length<=16777216):slE false a k H V Z=some (.p (.list (cut x y l)),Z):=Axj M U O (Gh (Qy z) (if_pos N))
theorem Rc.len {f:Nat->Nat}{l:List Nat}{x:Nat}(h:Rc f l x):l.length<=4:=by
 cases l with
 |nil=>decide
 |cons a r=>exact(M2 _ (Pu h.inR h.nd (by simp))).1
section
variable {a b n cell:Nat}{Z0z:Mu}{K:List PV}{X:Mu}{p t:Nat->Nat}{l:List Nat}{x i:Nat}
variable {x7 x8 x9 x10 x11 x12:Option MV}
theorem Aqp (Y:Bnd p t)(U:1<=x)(G:x<=4)(N:l.length<=4)(m:X[i]?=some (some (.lst (A8 l)))):
  B5 Aaq (B5 Aid E5) (anF a b Z0z.length cell [x7,x8,x9,some (.p (.int (x:Nat))),some (.mu (Z0z.length+4+i)),x12]) (Mm Z0z (Ao p) (Ap p) (A9 t) K X)=
   some (.next,anF a b Z0z.length cell [x7,x8,x9,some (.p (.int (arw p x:Nat))),some (.mu (Z0z.length+4+i)),x12],Mm Z0z (Ao p) (Ap p) (A9 t) K (X.set i (some (.lst (A8 (l++[x])))))):=by
 have d:(Mm Z0z (Ao p) (Ap p) (A9 t) K X)[Z0z.length+4+i]?=some (some (.lst (A8 l))):=by rw[Zz];exact m
 have W:Aaq (anF a b Z0z.length cell [x7,x8,x9,some (.p (.int (x:Nat))),some (.mu (Z0z.length+4+i)),x12]) (Mm Z0z (Ao p) (Ap p) (A9 t) K X)=
   some (.next,anF a b Z0z.length cell [x7,x8,x9,some (.p (.int (x:Nat))),some (.mu (Z0z.length+4+i)),x12],Mm Z0z (Ao p) (Ap p) (A9 t) K (X.set i (some (.lst (A8 (l++[x])))))):=by
  unfold Aaq anF;simp only[H5,Gq,Ak,Bk,vE,qe,qf,qc,Z4 d,if_true,Yd d (show(A8 l).length<=16777216 by rw[Kq];exact Ab N (by decide)),qd,Aaw,Af1];rfl
 rw[Bw W];unfold Aid anF;simp only[B5,E5,Cp,Cm,Ak,Bk,bE,vE,qe,qf,qc,Pm (Atw Z0z (Ao p) (Ap p) (A9 t) K (X.set i (some (.lst (A8 (l++[x])))))) (On _) (Of (fun v=>Ej (p v)) (show x<5 from(Ah G (by decide)))),Aja (Y.p_lt U G),Yg p U G,Bc,qd,qg,qh]
theorem Bbf (Y:Bnd p t)(U:1<=x)(G:x<=4)(N:l.length<=4)(R:x∉l)(m:X[i]?=some (some (.lst (A8 l)))):
  Un (anF a b Z0z.length cell [x7,x8,x9,some (.p (.int (x:Nat))),some (.mu (Z0z.length+4+i)),x12]) (Mm Z0z (Ao p) (Ap p) (A9 t) K X)=
   some (.next,anF a b Z0z.length cell [x7,x8,x9,some (.p (.int (arw p x:Nat))),some (.mu (Z0z.length+4+i)),x12],Mm Z0z (Ao p) (Ap p) (A9 t) K (X.set i (some (.lst (A8 (l++[x])))))):=by
 have d:(Mm Z0z (Ao p) (Ap p) (A9 t) K X)[Z0z.length+4+i]?=some (some (.lst (A8 l))):=by rw[Zz];exact m
 have e0:Xp (anF a b Z0z.length cell [x7,x8,x9,some (.p (.int (x:Nat))),some (.mu (Z0z.length+4+i)),x12]) (Mm Z0z (Ao p) (Ap p) (A9 t) K X)=some (.next,anF a b Z0z.length cell [x7,x8,x9,some (.p (.int (x:Nat))),some (.mu (Z0z.length+4+i)),x12],Mm Z0z (Ao p) (Ap p) (A9 t) K X):=by
  unfold Xp Xq anF;simp only[ifX,tB,bE,vE,qe,qf,qc,Aj0 d,Ml,qd,decide_eq_false R,Ch,if_false,E5]
 unfold Un;rw[Bw e0,Aqp Y U G N m]
theorem A2p (Y:Bt p t)(W:Rc (arw p) l x)(R:x∈l)(u:K.length<=1000)(m:X[i]?=some (some (.lst (A8 l)))):
  Un (anF a b Z0z.length cell [x7,x8,x9,some (.p (.int (x:Nat))),some (.mu (Z0z.length+4+i)),x12]) (Mm Z0z (Ao p) (Ap p) (A9 t) K X)=
   some (.next,anF a b Z0z.length cell [x7,x8,x9,some (.p (.int (arw (Ds (Fk (l.drop (l.idxOf x))) p) x:Nat))),some (.mu (Z0z.length+4+X.length)),some (.p (.int (l.idxOf x:Nat)))],
    Mm Z0z (Ao (Ds (Fk (l.drop (l.idxOf x))) p)) (Ap (Ds (Fk (l.drop (l.idxOf x))) p)) (A9 (Gk (Fk (l.drop (l.idxOf x))) t)) (K++[W7 cell (Fk (l.drop (l.idxOf x))) t]) (X++[some (.lst (A8 (l.take (l.idxOf x)++[x])))])):=by
 have d:(Mm Z0z (Ao p) (Ap p) (A9 t) K X)[Z0z.length+4+i]?=some (some (.lst (A8 l))):=by rw[Zz];exact m
 have q:=W.len;have f:=W.ring R;have D:=f.1;have z:=f.2.1;have N:=f.2.2.1;have r:=f.2.2.2;have H:=E2 R;have o:l.drop (l.idxOf x)∈L4:=Pu (fun v F=>W.inR v ((Sk _ _).subset F)) ((Sk _ _).nodup W.nd) (fun e=>by have:=congrArg Ati e;simp at this;exact Aup H this);have h:=Ak7 (cell:=cell) (Z0z:=Z0z) (K:=K) (rest:=X) (p:=p) (t:=t) o u Y.small (fun v F=>by
  have:=Rp D z F;exact⟨this,Y.b.p_lt ((Jt _ D v F).1) ((Jt _ D v F).2.1),Y.b.t_lt ((Jt _ D v F).1) ((Jt _ D v F).2.1) this⟩)
 have E:=A05 d (show l.length<=64 from(Ab q (by decide))) (fun v F=>by have:=W.inR v F;exact Ah this.2 (by decide)) R;generalize l.idxOf x=k at *;generalize Fk (l.drop k)=c at *;have hk:k<=(A8 l).length:=by rw[Kq];exact Ba H
 have n:(Mm Z0z (Ao (Ds c p)) (Ap (Ds c p)) (A9 (Gk c t)) (K++[W7 cell c t]) X)[Z0z.length+4+i]?=some (some (.lst (A8 l))):=by rw[Zz];exact m
 have g:(A8 l).length<=16777216:=by rw[Kq];exact Ab q (by decide)
 have B:Af6 (anF a b Z0z.length cell [x7,x8,x9,some (.p (.int (x:Nat))),some (.mu (Z0z.length+4+i)),x12]) (Mm Z0z (Ao p) (Ap p) (A9 t) K X)=some (.next,anF a b Z0z.length cell [x7,x8,x9,some (.p (.int (x:Nat))),some (.mu (Z0z.length+4+i)),some (.p (.int (k:Nat)))],Mm Z0z (Ao p) (Ap p) (A9 t) K X):=by
  refine Fu (Qi rfl ?_ (Bz rfl rfl) ?_) rfl<;>first|exact Z4 d|exact E|rfl|assumption
 have s:Y8 (anF a b Z0z.length cell [x7,x8,x9,some (.p (.int (x:Nat))),some (.mu (Z0z.length+4+i)),some (.p (.int (k:Nat)))]) (Mm Z0z (Ao p) (Ap p) (A9 t) K X)=some (.next,anF a b Z0z.length cell [x7,x8,x9,some (.p (.int (x:Nat))),some (.mu (Z0z.length+4+i)),some (.p (.int (k:Nat)))],Mm Z0z (Ao (Ds c p)) (Ap (Ds c p)) (A9 (Gk c t)) (K++[W7 cell c t]) X):=by
  have w:slE false (vE 11) (atP (vE 12)) noP (anF a b Z0z.length cell [x7,x8,x9,some (.p (.int (x:Nat))),some (.mu (Z0z.length+4+i)),some (.p (.int (k:Nat)))]) (Mm Z0z (Ao p) (Ap p) (A9 t) K X)=some (.p (.list (A8 (l.drop k))),Mm Z0z (Ao p) (Ap p) (A9 t) K X):=by
   rw[Ba5 (x:=some (k:Int)) (y:=none) (i:=Z0z.length+4+i) (l:=A8 l) rfl rfl rfl d g,Ajl _ hk,Ank]
  unfold Y8;simp only[H5,Cm,Ak,Bk,w,qc];unfold anF;simp only[vE,qe,qf,qc,fcF,h,qd]
 have j:Y9 (anF a b Z0z.length cell [x7,x8,x9,some (.p (.int (x:Nat))),some (.mu (Z0z.length+4+i)),some (.p (.int (k:Nat)))]) (Mm Z0z (Ao (Ds c p)) (Ap (Ds c p)) (A9 (Gk c t)) (K++[W7 cell c t]) X)=
   some (.next,anF a b Z0z.length cell [x7,x8,x9,some (.p (.int (x:Nat))),some (.mu (Z0z.length+4+X.length)),some (.p (.int (k:Nat)))],Mm Z0z (Ao (Ds c p)) (Ap (Ds c p)) (A9 (Gk c t)) (K++[W7 cell c t]) (X++[some (.lst (A8 (l.take k)))])):=by
  unfold Y9;simp only[Cp];rw[A7i (x:=none) (y:=some (k:Int)) (i:=Z0z.length+4+i) (l:=A8 l) rfl rfl rfl n g,Au7 _ hk,Ann,R2,Te];rfl
 have e0:Xp (anF a b Z0z.length cell [x7,x8,x9,some (.p (.int (x:Nat))),some (.mu (Z0z.length+4+i)),x12]) (Mm Z0z (Ao p) (Ap p) (A9 t) K X)=
   some (.next,anF a b Z0z.length cell [x7,x8,x9,some (.p (.int (x:Nat))),some (.mu (Z0z.length+4+X.length)),some (.p (.int (k:Nat)))],Mm Z0z (Ao (Ds c p)) (Ap (Ds c p)) (A9 (Gk c t)) (K++[W7 cell c t]) (X++[some (.lst (A8 (l.take k)))])):=by
  have A:Xq (anF a b Z0z.length cell [x7,x8,x9,some (.p (.int (x:Nat))),some (.mu (Z0z.length+4+i)),x12]) (Mm Z0z (Ao p) (Ap p) (A9 t) K X)=some (true,Mm Z0z (Ao p) (Ap p) (A9 t) K X):=by
   unfold Xq anF;simp only[tB,bE,vE,qe,qf,qc,Aj0 d,Ml,qd,decide_eq_true R]
  unfold Xp Af7;simp only[ifX,A,qc,if_true];rw[Bw B,Bw s,Bw j];rfl
 unfold Un;rw[Bw e0,Aqp (Y.take D z).b (W.inR x R).1 (W.inR x R).2 (by rw[Ef];exact Ab (G5 _ _) (Ab (Ba H) q)) (show(X++[some (MO.lst (A8 (l.take k)))])[X.length]?=some (some (.lst (A8 (l.take k)))) by simp)];rw[G7 _ _ (At _),As1];rfl
theorem An9 {t:BM}{b:SM}{n:Nat}{V:Sl}{Z a:Mu}(h:t V Z=some (false,a)):F8 t b (n+1) V Z=some (.next,V,a):=by
 show((t V Z).bind _)=_;rw[h];rfl
theorem Alh {t:BM}{b:SM}{n:Nat}{V c:Sl}{Z a μ2:Mu}(h:t V Z=some (true,a))(Y:b V a=some (.next,c,μ2)):F8 t b (n+1) V Z=F8 t b n c μ2:=by
 show((t V Z).bind fun x=>if x.1=true then(b V x.2).bind _ else _)=_;rw[h];show((b V a).bind _)=_;rw[Y];rfl
inductive WkR (a b cell:Nat)(Z0z:Mu)(x7 x9:Option MV)(s:Nat)(G:List Nat)(O:List PV)(n:Nat)(p t:Nat->Nat)(K:List PV)(X:Mu)(x i:Nat)(x12:Option MV):Prop
 |mk (L:List Lab)(p' t':Nat->Nat)(X':Mu)(l':List Nat)(x' i':Nat)(y12:Option MV)(e:F8 Aic Un n (anF a b Z0z.length cell [x7,some (.mu (Z0z.length+4+1)),x9,some (.p (.int (x:Nat))),some (.mu (Z0z.length+4+i)),x12]) (Mm Z0z (Ao p) (Ap p) (A9 t) K X)=
   some (.next,anF a b Z0z.length cell [x7,some (.mu (Z0z.length+4+1)),x9,some (.p (.int (x':Nat))),some (.mu (Z0z.length+4+i')),y12],Mm Z0z (Ao p') (Ap p') (A9 t') (K++L.map (Ij cell)) X'))
   (q1:I8 p t L p' t')(q2:Bt p' t')(q3:Rc (arw p') l' x')(q4:x'∈G)(q5:(l'++[x']).head?=some s)(q6:X'[0]?=some (some (.lst O)))(q7:X'[1]?=some (some (.lst (A8 G))))(q8:X'[i']?=some (some (.lst (A8 l'))))(q9:2<=i')(q10:∀v∈G,Ve (arw p') v):WkR a b cell Z0z x7 x9 s G O n p t K X x i x12
theorem Ada {s:Nat}{G:List Nat}{O:List PV}(hG0:0∈G)(Z:∀v∈G,v<=4):∀(n:Nat) (p t:Nat->Nat) (K:List PV) (X:Mu) (l:List Nat) (x i:Nat) (x12:Option MV),Bt p t->Rc (arw p) l x->x<=4->(l++[x]).head?=some s->
  X[0]?=some (some (.lst O))->X[1]?=some (some (.lst (A8 G)))->X[i]?=some (some (.lst (A8 l)))->2<=i->(∀v∈G,Ve (arw p) v)->Ms p+5<n+l.length->K.length+Ms p<=1000->
  WkR a b cell Z0z x7 x9 s G O n p t K X x i x12
 |0,p,t,K,X,l,x,i,x12,Y,W,I,M,hO,hG,m,H,Q,f,u=>absurd f (by have:=W.len;exact C0 (Ax (Br _ _) (Ab this (by decide))))
 |n+1,p,t,K,X,l,x,i,x12,Y,W,I,M,hO,hG,m,H,Q,f,u=>by
  have hMG:(Mm Z0z (Ao p) (Ap p) (A9 t) K X)[Z0z.length+4+1]?=some (some (.lst (A8 G))):=by rw[Zz];exact hG
  have A:Aic (anF a b Z0z.length cell [x7,some (.mu (Z0z.length+4+1)),x9,some (.p (.int (x:Nat))),some (.mu (Z0z.length+4+i)),x12]) (Mm Z0z (Ao p) (Ap p) (A9 t) K X)=some (!decide (x∈G),Mm Z0z (Ao p) (Ap p) (A9 t) K X):=by
   unfold Aic anF;simp only[tB,bE,vE,qe,qf,qc,Awr hMG,Ml,qd]
  by_cases R:x∈G
  ·rw[decide_eq_true R] at A;exact⟨[],p,t,X,l,x,i,x12,(An9 A).trans (by rw[ql,Ct]),.nil,Y,W,R,M,hO,hG,m,H,Q⟩
  ·have U:1<=x:=Ha fun e=>R (e▸hG0);rw[decide_eq_false R] at A;by_cases B:x∈l
   ·obtain⟨D,z,N,r4⟩:=W.ring B;have E:=E2 B;have o:l[l.idxOf x]=x:=Mf E;have hms:=Agk Y.b D z;have hclen:(Fk (l.drop (l.idxOf x))).length=l.length-l.idxOf x:=by rw[A10,D0]
    have J:=Alh (n:=n) A (A2p Y W B (Bm u) m);have V:l.take (l.idxOf x)++[x]=l.take (l.idxOf x+1):=by rw[Ni E,o]
    have hnd1:(l.take (l.idxOf x)++[x]).Nodup:=by rw[V];exact(Sn _ _).nodup W.nd
    have hxt:x∉l.take (l.idxOf x):=fun h=>(Hp.mp hnd1).2.2 x h x (by simp) rfl;have hoff:∀v∈l.take (l.idxOf x),v∉Fk (l.drop (l.idxOf x)):=fun v F c=>by
     have w:=W.nd;rw[<-List.take_append_drop (l.idxOf x) l] at w;exact(Hp.mp w).2.2 v F v (r4 v c) rfl
    have hW':Rc (arw (Ds (Fk (l.drop (l.idxOf x))) p)) (l.take (l.idxOf x)) x:=(W.cut B).off fun v F=>by
     obtain⟨q1,T⟩:=W.inR v ((Sn _ _).subset F);exact Ag4 p q1 T (hoff v F)
    have C:((l.take (l.idxOf x)++[x])++[arw (Ds (Fk (l.drop (l.idxOf x))) p) x]).head?=some s:=by
     rw[V];cases l with
     |nil=>cases B
     |cons y r=>exact M
    obtain⟨L,S,P,k,j,g,i',q,e,s1,d,s3,s4,s5,s6,s7,s8,s9,s10⟩:=Ada hG0 Z n (Ds (Fk (l.drop (l.idxOf x))) p) (Gk (Fk (l.drop (l.idxOf x))) t) (K++[W7 cell (Fk (l.drop (l.idxOf x))) t]) (X++[some (.lst (A8 (l.take (l.idxOf x)++[x])))])
     (l.take (l.idxOf x)++[x]) (arw (Ds (Fk (l.drop (l.idxOf x))) p) x) X.length (some (.p (.int (l.idxOf x:Nat)))) (Y.take D z) (hW'.app hxt U I) (Yh _ I) C
     (by rw[Cz (Aq.mp hO).1];exact hO) (by rw[Cz (Aq.mp hG).1];exact hG) (by simp) (by have:=(Aq.mp m).1;exact Ba (Ah H this))
     (fun v F=>Ans D z (Q v F) (Z v F)) (by simp only[As,Ef,Kk];lia) (by simp only[As,Kk];lia)
    exact⟨lab (Fk (l.drop (l.idxOf x))) t::L,S,P,k,j,g,i',q,J.trans (e.trans (by rw[Aj4,qk,Az];rfl)),.cons D z s1,d,s3,s4,s5,s6,s7,s8,s9,s10⟩
   ·have hXi:=(Aq.mp m).1;obtain⟨L,S,P,k,j,g,i',q,e,s1,d,s3,s4,s5,s6,s7,s8,s9,s10⟩:=Ada hG0 Z n p t K (X.set i (some (.lst (A8 (l++[x]))))) (l++[x]) (arw p x) i x12 Y (W.app B U I) (Yh _ I)
     (by cases l with
       |nil=>exact M
       |cons y r=>exact M)
     (by rw[Gf (Ga (N9 H))];exact hO) (by rw[Gf (Ga (by assumption))];exact hG) (Fe hXi) H Q (by simp only[As,Kk];lia) u
    exact⟨L,S,P,k,j,g,i',q,(Alh (n:=n) A (Bbf Y.b U I W.len B m)).trans e,s1,d,s3,s4,s5,s6,s7,s8,s9,s10⟩
end
end
section
theorem Axn {p t S f:Nat->Nat}{L:List Lab}(h:I8 p t L S f)(Y:Bnd p t):Ms S+L.length<=Ms p:=by have:=Y2 h Y;lia
theorem Ae6 {u d:Type}(f:u->d):∀(l:List u) (i:Nat),(l.map f).eraseIdx i=(l.eraseIdx i).map f
 |[],i=>by rfl
 |a::r,0=>rfl
 |a::r,i+1=>by
  show f a::(r.map f).eraseIdx i=f a::(r.eraseIdx i).map f;rw[Ae6 f r i]
theorem Ae5 {s v:Nat}:∀(l:List Nat) (i:Nat),l[i]?=some s->v∈l->v∈l.eraseIdx i\/v=s
 |[],i,_,F=>by cases F
 |a::r,0,h,F=>by
  rcases Av.mp F with rfl|F
  ·exact .inr (Af h)
  ·exact .inl F
 |a::r,i+1,h,F=>by
  rcases Av.mp F with rfl|F
  ·exact .inl (An ..)
  ·rcases Ae5 r i h F with h|h
   ·exact .inl (A4 _ h)
   ·exact .inr h
section
variable {a b n cell:Nat}{Z0z:Mu}{K:List PV}{X:Mu}{p t:Nat->Nat}
variable {x7 x8 x9 x10 x11 x12:Option MV}
inductive WkT (a b cell:Nat)(Z0z:Mu)(K:List PV)(X:Mu)(p t:Nat->Nat)(x10 x11 x12:Option MV)(O G:List Nat)(i:Nat):Prop
 |mk (L:List Lab)(p':Nat->Nat)(t':Nat->Nat)(O':List Nat)(G':List Nat)(X':Mu)(y10:Option MV)(y11:Option MV)(y12:Option MV)(e:Aqn (anF a b Z0z.length cell [some (.mu (Z0z.length+4+0)),some (.mu (Z0z.length+4+1)),some (.p (.int (i:Nat))),x10,x11,x12]) (Mm Z0z (Ao p) (Ap p) (A9 t) K X)=
   some (.next,anF a b Z0z.length cell [some (.mu (Z0z.length+4+0)),some (.mu (Z0z.length+4+1)),some (.p (.int (i:Nat))),y10,y11,y12],Mm Z0z (Ao p') (Ap p') (A9 t') (K++L.map (Ij cell)) X'))(q1:I8 p t L p' t') (q2:Bt p' t') (q3:(∀v∈O',v∈O)) (q4:O'.length+1=O.length) (q5:(∀v∈G,v∈G')) (q6:(∀v∈O,v∈O'\/v∈G')) (q7:(∀v∈G',v<=4)) (q8:G'.length<=G.length+4) (q9:(∀v∈G',Ve (arw p') v)) (q10:X'[0]?=some (some (.lst (A8 O')))) (q11:X'[1]?=some (some (.lst (A8 G')))):WkT a b cell Z0z K X p t x10 x11 x12 O G i
theorem A2q {O G:List Nat}{i:Nat}(hb:Bt p t)(hi:i<4)(hO:∀v∈O,1<=v/\v<=4)(hO0:O≠[])(hO4:O.length<=4)(hG0:0∈G)(hG4:∀v∈G,v<=4)(hGl:G.length<=100)(hS:∀v∈G,Ve (arw p) v)
  (hX0:X[0]?=some (some (.lst (A8 O))))(hX1:X[1]?=some (some (.lst (A8 G))))(hM:Ms p<=14)(hK:K.length+Ms p<=1000):
  WkT a b cell Z0z K X p t x10 x11 x12 O G i:=by
 have hOl:O.length≠0:=fun e=>hO0 (Mo.mp e);have hj:cell/5^i%O.length<O.length:=Cr _ (Ha (by assumption));have hjl:((cell/5^i%O.length:Nat):Int).toNat=cell/5^i%O.length:=rfl;have hM0:(Mm Z0z (Ao p) (Ap p) (A9 t) K X)[Z0z.length+4+0]?=some (some (.lst (A8 O))):=by rw[Zz];exact hX0
 have hp5:5^i<2^900:=Ah (Er (by decide) (show i<=4 from(Ab (Ai hi) (by decide)))) (by decide);obtain⟨s,hs⟩:∃s,O[cell/5^i%O.length]?=some s:=⟨_,Bx hj⟩;have hsO:s∈O:=Bo hs;have s1:=(hO s hsO).1;have hlenI:((A8 O).length:Int)=(O.length:Nat):=by rw[Kq]
 have hpop:A66 [.mu (Z0z.length+4+0),.p (.int ((cell/5^i%O.length:Nat):Int))] (Mm Z0z (Ao p) (Ap p) (A9 t) K X)=some (.p (.int (s:Nat)),Mm Z0z (Ao p) (Ap p) (A9 t) K (X.set 0 (some (.lst (A8 (O.eraseIdx (cell/5^i%O.length))))))):=by
  have hg:(A8 O)[cell/5^i%O.length]?=some (.int (s:Nat)):=by unfold A8;rw[B0,hs];rfl
  have he:(A8 O).eraseIdx (cell/5^i%O.length)=A8 (O.eraseIdx (cell/5^i%O.length)):=by unfold A8;rw[Ae6]
  show(Lq _ _).bind _=_;rw[K4 hM0];show(if _ then _ else _)=_;rw[if_pos ⟨(By _),by rw[Kq];exact Ab hO4 (by decide)⟩,hjl,hg,he,Aaw];rfl
 have e1:Ax8 (anF a b Z0z.length cell [some (.mu (Z0z.length+4+0)),some (.mu (Z0z.length+4+1)),some (.p (.int (i:Nat))),x10,x11,x12]) (Mm Z0z (Ao p) (Ap p) (A9 t) K X)=
   some (.next,anF a b Z0z.length cell [some (.mu (Z0z.length+4+0)),some (.mu (Z0z.length+4+1)),some (.p (.int (i:Nat))),some (.p (.int (s:Nat))),x11,x12],Mm Z0z (Ao p) (Ap p) (A9 t) K (X.set 0 (some (.lst (A8 (O.eraseIdx (cell/5^i%O.length))))))):=by
  unfold Ax8;apply Fu (Qi rfl ?_ (Bz (Du (Du rfl (Du rfl rfl ?_) ?_) (Ju (Bz rfl rfl) ?_) ?_) rfl) ?_) rfl<;>first|exact congrArg (fun z=>some (MV.p (PV.int z),_)) hpop|exact Z4 hM0|exact A1v 5 i (by decide) (Ab (Ai hi) (by decide)) (a':=5) rfl|exact Tm (a:=cell) (b:=5^i) rfl (Lu.mp (Xx (by decide))) hp5|exact Aca hM0 (show(A8 O).length<=16384 by rw[Kq];exact Ab hO4 (by decide))|exact Jd (a:=cell/5^i) hlenI hOl|exact hpop|rfl|exact Ee rfl|decide|skip
  all_goals first|exact congrArg (fun z=>some (MV.p (PV.int z),_)) hpop|exact Z4 hM0|exact A1v 5 i (by decide) (by lia) (a':=5) rfl|exact Tm (a:=cell) (b:=5^i) rfl (Lu.mp (Xx (by decide))) hp5|exact Aca hM0 (show(A8 O).length<=16384 by rw[Kq];lia)|exact Jd (a:=cell/5^i) hlenI hOl|exact hpop|rfl|exact Ee rfl|decide|skip
 generalize hO':O.eraseIdx (cell/5^i%O.length)=O' at *;have hO'in:∀v∈O',v∈O:=fun v hv=>by rw[<-hO'] at hv;exact List.mem_of_mem_eraseIdx hv
 have hO'len:O'.length+1=O.length:=by rw[<-hO',List.length_eraseIdx_of_lt hj];exact Eu (Ha hOl)
 have hO'all:∀v∈O,v∈O'\/v=s:=fun v hv=>by
  rw[<-hO'];exact Ae5 O _ hs hv
 have hX0l:=(Aq.mp hX0).1;have hX1l:=(Aq.mp hX1).1;generalize hY:X.set 0 (some (.lst (A8 O')))=Y at *;have hY0:Y[0]?=some (some (.lst (A8 O'))):=by rw[<-hY,Fe hX0l]
 have hY1:Y[1]?=some (some (.lst (A8 G))):=by rw[<-hY,Gf (by decide)];exact hX1
 have hYl:2<=Y.length:=by rw[<-hY,Mc];exact Ft hX1l
 have e2:Ax9 (anF a b Z0z.length cell [some (.mu (Z0z.length+4+0)),some (.mu (Z0z.length+4+1)),some (.p (.int (i:Nat))),some (.p (.int (s:Nat))),x11,x12]) (Mm Z0z (Ao p) (Ap p) (A9 t) K Y)=
   some (.next,anF a b Z0z.length cell [some (.mu (Z0z.length+4+0)),some (.mu (Z0z.length+4+1)),some (.p (.int (i:Nat))),some (.p (.int (s:Nat))),some (.mu (Z0z.length+4+Y.length)),x12],Mm Z0z (Ao p) (Ap p) (A9 t) K (Y++[some (.lst (A8 []))])):=by
  unfold Ax9 anF;simp only[Cp,K3,Cp,Bk,Bc,qc,qd,qj,qg,qh,Nat.reduceLeDiff,reduceIte,Kf,Kg,R2,Te];rfl
 have hW:Rc (arw p) [] s:=⟨by decide,by simp,by simp⟩;obtain⟨L,p',t',X',l',x',i',y12,e3,q1,q2,q3,q4,q5,q6,q7,q8,q9,q10⟩:=Ada (a:=a) (b:=b) (cell:=cell) (Z0z:=Z0z) (x7:=some (.mu (Z0z.length+4+0))) (x9:=some (.p (.int (i:Nat)))) (s:=s) (G:=G) (O:=A8 O') hG0 hG4 100 p t K (Y++[some (.lst (A8 []))]) [] s Y.length x12 hb hW ((hO s hsO).2) rfl
  (by rw[Cz (Ba (by assumption))];exact hY0) (by rw[Cz (by assumption)];exact hY1) (by simp) hYl hS (by simp;exact Ah (Bp hM _) (by decide)) hK
 have hl4:=q3.len;have hX'1:=(Aq.mp q7).1;have e4:Aya (anF a b Z0z.length cell [some (.mu (Z0z.length+4+0)),some (.mu (Z0z.length+4+1)),some (.p (.int (i:Nat))),some (.p (.int (x':Nat))),some (.mu (Z0z.length+4+i')),y12]) (Mm Z0z (Ao p') (Ap p') (A9 t') (K++L.map (Ij cell)) X')=
   some (.next,anF a b Z0z.length cell [some (.mu (Z0z.length+4+0)),some (.mu (Z0z.length+4+1)),some (.p (.int (i:Nat))),some (.p (.int (x':Nat))),some (.mu (Z0z.length+4+i')),y12],Mm Z0z (Ao p') (Ap p') (A9 t') (K++L.map (Ij cell)) (X'.set 1 (some (.lst (A8 (G++l')))))):=by
  have m1:(Mm Z0z (Ao p') (Ap p') (A9 t') (K++L.map (Ij cell)) X')[Z0z.length+4+1]?=some (some (.lst (A8 G))):=by rw[Zz];exact q7
  have mi:(Mm Z0z (Ao p') (Ap p') (A9 t') (K++L.map (Ij cell)) X')[Z0z.length+4+i']?=some (some (.lst (A8 l'))):=by rw[Zz];exact q8
  have hext:Ahg [.mu (Z0z.length+4+1),.mu (Z0z.length+4+i')] (Mm Z0z (Ao p') (Ap p') (A9 t') (K++L.map (Ij cell)) X')=some (.p .none,Mm Z0z (Ao p') (Ap p') (A9 t') (K++L.map (Ij cell)) (X'.set 1 (some (.lst (A8 (G++l')))))):=by
   show(Lq _ _).bind _=_;rw[K4 mi];show(Lq _ _).bind _=_;rw[K4 m1];show(if _ then _ else _)=_;rw[if_pos (by rw[Kq,Kq];exact Ab (Ax hGl hl4) (by decide)),Aaw,Af1]
  unfold Aya;apply R4 (Qi rfl ?_ (Bz rfl rfl) ?_)<;>first|exact congrArg (fun z=>some (MV.p (PV.int z),_)) hext|exact Z4 m1|exact hext|rfl|exact Ee rfl|decide|skip
  all_goals first|exact congrArg (fun z=>some (MV.p (PV.int z),_)) hext|exact Z4 m1|exact hext|rfl|exact Ee rfl|decide|skip
 refine⟨L,p',t',O',G++l',X'.set 1 (some (.lst (A8 (G++l')))),some (.p (.int (x':Nat))),some (.mu (Z0z.length+4+i')),y12,?_,q1,q2,hO'in,hO'len,fun v hv=>Gg _ hv,fun v hv=>?_,fun v hv=>?_,by rw[As];exact Ar hl4 _,fun v hv=>?_,?_,?_⟩
 ·unfold Aqn;have e3':A4g (anF a b Z0z.length cell [some (.mu (Z0z.length+4+0)),some (.mu (Z0z.length+4+1)),some (.p (.int (i:Nat))),some (.p (.int (s:Nat))),some (.mu (Z0z.length+4+Y.length)),x12]) (Mm Z0z (Ao p) (Ap p) (A9 t) K (Y++[some (.lst (A8 []))]))=some (.next,anF a b Z0z.length cell [some (.mu (Z0z.length+4+0)),some (.mu (Z0z.length+4+1)),some (.p (.int (i:Nat))),some (.p (.int (x':Nat))),some (.mu (Z0z.length+4+i')),y12],Mm Z0z (Ao p') (Ap p') (A9 t') (K++L.map (Ij cell)) X'):=e3;rw[Bw e1,Bw e2,Bw e3',Bw e4];rfl
 ·rcases hO'all v hv with h|rfl
  ·exact .inl h
  ·refine .inr ?_;cases l' with
   |nil=>
    have hx:x'=v:=by simpa using q5
    exact Gg _ (hx▸q4)
   |cons y r=>
    have hy:y=v:=by simpa using q5
    exact Kl _ (hy.symm▸An ..)
 ·rcases B6.mp hv with h|h
  ·exact hG4 v h
  ·exact(q3.inR v h).2
 ·rcases B6.mp hv with h|h
  ·exact q10 v h
  ·exact q3.safe (q10 x' q4) v h
 ·rw[Gf (by decide)];exact q6
 ·rw[Fe hX'1]
inductive WkL (a b cell:Nat)(Z0z:Mu)(is:List Nat)(p t:Nat->Nat)(K:List PV)(X:Mu)(x9 x10 x11 x12:Option MV):Prop
 |mk (L:List Lab)(p' t':Nat->Nat)(y9 y10 y11 y12:Option MV)(X':Mu)(e:Eo (Bc 9) Aqn (is.map fun(i:Nat)=>.p (.int (i:Nat))) (anF a b Z0z.length cell [some (.mu (Z0z.length+4+0)),some (.mu (Z0z.length+4+1)),x9,x10,x11,x12]) (Mm Z0z (Ao p) (Ap p) (A9 t) K X)=
   some (.next,anF a b Z0z.length cell [some (.mu (Z0z.length+4+0)),some (.mu (Z0z.length+4+1)),y9,y10,y11,y12],Mm Z0z (Ao p') (Ap p') (A9 t') (K++L.map (Ij cell)) X'))(q1:I8 p t L p' t') (q2:NoR p'):WkL a b cell Z0z is p t K X x9 x10 x11 x12
theorem Aqo:∀(r:List Nat) (p t:Nat->Nat) (K:List PV) (X:Mu) (O G:List Nat) (x9 x10 x11 x12:Option MV),Bt p t->Ms p<=14->(∀i∈r,i<4)->(∀v∈O,1<=v/\v<=4)->O.length=r.length->r.length<=4->0∈G->(∀v∈G,v<=4)->G.length+4*r.length<=50->(∀v∈G,Ve (arw p) v)->(∀v,1<=v->v<=4->v∈O\/v∈G)->
  X[0]?=some (some (.lst (A8 O)))->X[1]?=some (some (.lst (A8 G)))->K.length+Ms p<=1000->
  WkL a b cell Z0z r p t K X x9 x10 x11 x12
 |[],p,t,K,X,O,G,x9,x10,x11,x12,hb,hM,hi,hO,hOl,h4,hG0,hG4,hGl,hS,hall,hX0,hX1,hK=>⟨[],p,t,x9,x10,x11,x12,X,by rw[ql,ql,Ct];rfl,.nil,Axf fun v u H=>by
   rcases hall v u H with h|h
   ·rw[Mo.mp hOl] at h;cases h
   ·exact hS v h⟩
 |i::r,p,t,K,X,O,G,x9,x10,x11,x12,hb,hM,hi,hO,hOl,h4,hG0,hG4,hGl,hS,hall,hX0,hX1,hK=>by
  simp only[qi] at hOl h4 hGl;obtain⟨L,S,f,I,N,k,g,c,q,e,q1,q2,q3,T,d,M,P,Q,J,x,m⟩:=A2q (a:=a) (b:=b) (cell:=cell) (Z0z:=Z0z) (K:=K) (X:=X) (x10:=x10) (x11:=x11) (x12:=x12) hb (hi i (An ..)) hO (fun e=>by rw[e] at hOl;simp at hOl) (Ab (Aj hOl) (Ab (Aj (Eq.symm hOl)) (Ab (Aj hOl) h4))) hG0 hG4 (by lia) hS hX0 hX1 hM hK;have w:=Axn q1 hb.b;obtain⟨B,l,U,A,z,o,s,n,D,y,C⟩:=Aqo r S f (K++L.map (Ij cell)) k I N (some (.p (.int (i:Nat)))) g c q q2 (by lia) (fun j E=>hi j (A4 _ E)) (fun v F=>hO v (q3 v F)) (Hy (Oc T hOl)) (Ba (by assumption)) (d 0 hG0) P (by lia) J
   (fun v u H=>by
    rcases hall v u H with h|h
    ·exact M v h
    ·exact .inr (d v h)) x m (by rw[As,Bn];lia)
  exact⟨L++B,l,U,A,z,o,s,n,(Tq (V1z:=anF a b Z0z.length cell [some (.mu (Z0z.length+4+0)),some (.mu (Z0z.length+4+1)),some (.p (.int (i:Nat))),x10,x11,x12]) rfl e).trans (D.trans (by rw[F5,Az])),q1.app y,C⟩
theorem An8 (M:Z0z[a]?=some (some (.lst (Ao p))))(Y:Z0z[b]?=some (some (.lst (Ap p))))(j:Bt p fun _=>0)(d:Ms p<=14):
  ∃L p' f,Fq 3 13 wkB [.mu a,.mu b,.p (.int (cell:Nat))] Z0z=some (.list (L6 (L.map (Ij cell))),Z0z)/\I8 p (fun _=>0) L p' f/\NoR p':=by
 refine Aa fun w=>?_;obtain⟨L,p',f,o,g,c,q,k,O,y,C⟩:=Aqo (a:=a) (b:=b) (cell:=cell) (Z0z:=Z0z) [0,1,2,3] p (fun _=>0) [] [some (.lst (A8 [1,2,3,4])),some (.lst (A8 [0]))] [1,2,3,4] [0] none none none none j d (by decide) (by decide) rfl (by decide) (by decide) (by decide) (by decide)
  (fun v F=>by rw[A6.mp F];exact .zero) (fun v u H=>.inl (by
   have:v=1\/v=2\/v=3\/v=4:=(Abc H u);rcases this with rfl|rfl|rfl|rfl<;>decide)) rfl rfl (by simp;exact Ab d (by decide))
 refine w ?_;refine exi3 L p' f ⟨?_,y,C⟩;have W:wk1 (L1 13 [.mu a,.mu b,.p (.int (cell:Nat))]) Z0z=some (.next,anF a b Z0z.length cell [none,none,none,none,none,none],Mm Z0z (Ao p) (Ap p) (A9 fun _=>0) [] []):=by
  unfold wk1;simp only[Cp,(Aj7 (a:=a) (b:=b) (Z0z:=Z0z) (p:=p) (V:=L1 13 [.mu a,.mu b,.p (.int (cell:Nat))]) rfl rfl M Y),qc];rfl
 have D:wk2 (anF a b Z0z.length cell [none,none,none,none,none,none]) (Mm Z0z (Ao p) (Ap p) (A9 fun _=>0) [] [])=some (.next,anF a b Z0z.length cell [some (.mu (Z0z.length+4+0)),none,none,none,none,none],Mm Z0z (Ao p) (Ap p) (A9 fun _=>0) [] [some (.lst (A8 [1,2,3,4]))]):=by
  unfold wk2 anF;simp only[Cp,K3,Cp,Ak,Bk,kE,Bc,qc,qd,qi,qj,qm,qg,qh,Nat.reduceAdd,Nat.reduceLeDiff,reduceIte,Cg,Kf,Kg,R2,Te];rfl
 have N:wk3 (anF a b Z0z.length cell [some (.mu (Z0z.length+4+0)),none,none,none,none,none]) (Mm Z0z (Ao p) (Ap p) (A9 fun _=>0) [] [some (.lst (A8 [1,2,3,4]))])=some (.next,anF a b Z0z.length cell [some (.mu (Z0z.length+4+0)),some (.mu (Z0z.length+4+1)),none,none,none,none],Mm Z0z (Ao p) (Ap p) (A9 fun _=>0) [] [some (.lst (A8 [1,2,3,4])),some (.lst (A8 [0]))]):=by
  unfold wk3 anF;simp only[Cp,K3,Cp,Ak,Bk,kE,Bc,qc,qd,qi,qj,qm,qo,qg,qh,Nat.reduceLeDiff,reduceIte,Cg,Kf,Kg,R2,Te];rfl
 have e:wk4 (anF a b Z0z.length cell [some (.mu (Z0z.length+4+0)),some (.mu (Z0z.length+4+1)),none,none,none,none]) (Mm Z0z (Ao p) (Ap p) (A9 fun _=>0) [] [some (.lst (A8 [1,2,3,4])),some (.lst (A8 [0]))])=some (.next,anF a b Z0z.length cell [some (.mu (Z0z.length+4+0)),some (.mu (Z0z.length+4+1)),o,g,c,q],Mm Z0z (Ao p') (Ap p') (A9 f) ([]++L.map (Ij cell)) k):=by
  unfold wk4 Bbe;exact O
 have h:L.length<=14:=by have:=Y2 y j.b;lia
 have r:wk5 (anF a b Z0z.length cell [some (.mu (Z0z.length+4+0)),some (.mu (Z0z.length+4+1)),o,g,c,q]) (Mm Z0z (Ao p') (Ap p') (A9 f) ([]++L.map (Ij cell)) k)=some (.ret (.p (.list (L6 (L.map (Ij cell))))),anF a b Z0z.length cell [some (.mu (Z0z.length+4+0)),some (.mu (Z0z.length+4+1)),o,g,c,q],Mm Z0z (Ao p') (Ap p') (A9 f) ([]++L.map (Ij cell)) k):=by
  have l:=Af3 (Z:=Mm Z0z (Ao p') (Ap p') (A9 f) ([]++L.map (Ij cell)) k) (i:=Z0z.length+3) (cell:=cell) (L:=L) (Al2 ..) (Y1 y j.b) (Acz y) (Ah (by assumption) (by decide));refine Kw (Ju (Bz rfl rfl) ?_)<;>first|exact l|rfl|assumption
 have I:wkB (L1 13 [.mu a,.mu b,.p (.int (cell:Nat))]) Z0z=some (.ret (.p (.list (L6 (L.map (Ij cell))))),anF a b Z0z.length cell [some (.mu (Z0z.length+4+0)),some (.mu (Z0z.length+4+1)),o,g,c,q],Mm Z0z (Ao p') (Ap p') (A9 f) ([]++L.map (Ij cell)) k):=by
  unfold wkB;rw[Bw W,Bw D,Bw N,Bw e];simp only[B5,r,qc]
 rw[Aah (np:=3) rfl I];unfold Mm;rw[K1]
end
end
theorem Akz {l:List PV}(K:Nm l){a:PV}(M:a∈l):∀q:List PV,(∀x∈q,x∈l/\x≠a)->q.Pairwise ltB->∃d:List PV,d.Perm (a::q)/\d.Pairwise ltB
 |[],_,_=>⟨[a],.refl _,by simp⟩
 |b::q,h,s=>by
  obtain⟨Y,W⟩:=h b (An ..);obtain⟨s1,y⟩:=Zw.mp s;rcases K.total M Y (Vd W) with hab|c
  ·refine⟨a::b::q,.refl _,Zw.mpr ⟨fun x R=>?_,s⟩⟩;rcases Av.mp R with rfl|R
   ·exact hab
   ·exact K.trans M Y (h x (A4 _ R)).1 hab (s1 x R)
  ·obtain⟨d,S,s'⟩:=Akz K M q (fun x R=>h x (A4 _ R)) y;refine⟨b::d,(S.cons b).trans (.swap ..),Zw.mpr ⟨fun x R=>?_,s'⟩⟩;rcases Av.mp (S.mem_iff.mp R) with rfl|R
   ·exact c
   ·exact s1 x R
theorem Aqc {l:List PV}(K:Nm l):∀m:List PV,(∀x∈m,x∈l)->m.Nodup->∃q:List PV,q.Perm m/\q.Pairwise ltB
 |[],_,_=>⟨[],.refl _,.nil⟩
 |a::m,h,A=>by
  refine Aa fun P=>?_;obtain⟨i,C⟩:=C4.mp A;obtain⟨q,p,s⟩:=Aqc K m (fun x R=>h x (A4 _ R)) C;obtain⟨d,S,s'⟩:=Akz K (h a (An ..)) q (fun x R=>⟨h x (A4 _ (p.mem_iff.mp R)),fun e=>i (e▸p.mem_iff.mp R)⟩) s;refine P ?_;exact⟨d,S.trans (p.cons a),s'⟩
theorem Anz {l j:List PV}(K:Nm l)(p:l.Perm j):L6 l=L6 j/\(L6 l).Perm l:=by
 obtain⟨q,U,O⟩:=Aqc K l (fun _ h=>h) K.nd;rw[Xi K U O,Xi (K.perm p.symm) (U.trans p) O];exact⟨rfl,U⟩
theorem Arp (cell:Nat){l:Lab}(h:Tt l):okF 8 (Ij cell l)=true:=by
 have I:∀q∈Iv,∀n:Nat,(M0 (q,n)).all (okF 7)=true:=by
  have h:∀q∈Iv,(Kv q).all (okF 7)=true:=by decide+kernel
  intro q hq n;unfold M0;rw[Mb,h q hq];rfl
 show Aip ([PV.int 0,PV.str "ring"]++l.flatMap fun q=>M0 (qOf cell q.1,q.2)) (okF 7)=true;rw[Mb,Adm,show Aip [PV.int 0,PV.str "ring"] (okF 7)=true by decide+kernel,Fv];exact Bd.mpr fun q hq=>I _ (Q0 cell (h q hq).1 (h q hq).2) _
noncomputable def dgs:Nat->Nat->List UInt8
 |0,_=>[]
 |f+1,n=>dgs f (n/16)++[Db (65+n%16)]
theorem Ajn:∀f,Bb f (65:UInt8)=dgs f 0
 |0=>rfl
 |f+1=>Atf.trans (congrArg (·++[(65:UInt8)]) (Ajn f))
theorem Aos:∀f n,n<16^f->Bb (f-(apL f n).length) (65:UInt8)++apL f n=dgs f n
 |0,n,_=>rfl
 |f+1,n,h=>by
  by_cases I:n=0
  ·subst I;exact(Ct _).trans (Ajn (f+1))
  ·have e:apL (f+1) n=apL f (n/16)++[Db (65+n%16)]:=if_neg I;rw[e,As,Kk,Nat.add_sub_add_right,<-Az,Aos f (n/16) (Fa (Ib ..▸h))];rfl
theorem Ai8:∀f n,n<16^f->(apL f n).head?≠some 65
 |0,n,_=>nofun
 |f+1,n,h=>by
  by_cases I:n=0
  ·subst I;exact nofun
  ·have e:apL (f+1) n=apL f (n/16)++[Db (65+n%16)]:=if_neg I;have J:=Ai8 f (n/16) (Fa (Ib ..▸h));rw[e];by_cases U:n/16=0
   ·have W:apL f (n/16)=[]:=by rw[U];cases f<;>rfl
    rw[W];intro h;have:=An7 (n%16) (Cr _ (by decide));rw[Af h] at this;have a:(65:UInt8).toNat=65:=rfl;lia
   ·cases f with
    |zero=>exact absurd (A8f (show n<16 from h)) U
    |succ f=>
     have D:apL (f+1) (n/16)=apL f (n/16/16)++[Db (65+n/16%16)]:=if_neg U;rw[D] at J |-
     intro h;apply J;cases M:apL f (n/16/16)<;>rw[M] at h<;>exact h
theorem Asn {n:Nat}(h:n<65536):Bb (4-(F0 n).length) (65:UInt8)++F0 n=[Db (65+n/4096%16),Db (65+n/256%16),Db (65+n/16%16),Db (65+n%16)]:=by
 have e:F0 n=apL 4 n:=Wn 99 4 n (M4 h (by decide)) h;rw[e,Aos 4 n h,show n/4096=n/16/16/16 by rw[Uv,Uv],show n/256=n/16/16 by rw[Uv]];rfl
theorem Aoa {n:Nat}(h:n<65536):(F0 n).take 1≠[65]:=by
 have e:F0 n=apL 4 n:=Wn 99 4 n (M4 h (by decide)) h;have:=Ai8 4 n h;rw[e];cases M:apL 4 n with
 |nil=>exact nofun
 |cons a r=>
  rw[M] at this;exact fun e=>this (congrArg some (Hw e).1)
section
theorem Au6 {u:Type}(l:List u)(k:Nat):cut none (some (k:Int)) l=l.take k:=by
 unfold cut;have U:Aei (some (k:Int)) l.length=min k l.length:=by show(if(k:Int)<0 then l.length-(-(k:Int)).toNat else min (k:Int).toNat l.length)=_;rfl
 have O:X3 none l.length=0:=rfl;rw[U,O,Gy,Ob];rcases Nat.le_total k l.length with h|h
 ·rw[H1 h]
 ·rw[Jm h,Cj (At _),Cj h]
noncomputable def A9n (ws:List Int)(k:Nat):Int:=(((ws.take 60).zipIdx.filterMap fun q=>if q.2%5=k then some (q.1.fmod 1000000) else none)).sum
theorem A0w (x:Int):0<=x.fmod 1000000:=by rw[K7 _ (by decide)];exact Me _ (by decide)
theorem Axs:∀l:List Int,(∀x∈l,0<=x)->0<=l.sum
 |[],_=>by decide
 |x::l,h=>by
  have:=Axs l fun y T=>h y (A4 _ T);have:=h x (An ..);simp only[Lw];exact K6 this (by assumption)
theorem Az2 (ws:List Int)(k:Nat):0<=A9n ws k:=Axs _ fun x R=>by
 obtain⟨q,_,hq⟩:=Ig.mp R;replace hq:=(Am hq).2;rw[<-Af hq];exact A0w _
noncomputable def Nq:List Int:=[386,1862,185,990,7451]
noncomputable def Ao1 (ws:List Int)(k:Nat):Int:=Nq.getD k 0+A9n ws k
theorem Auw (ws:List Int){k:Nat}(hk:k<5):0<=Ao1 ws k:=by
 have U:∀k<5,0<=Nq.getD k 0:=by decide
 have:=Az2 ws k;have:=U k hk;unfold Ao1;exact K6 this (by assumption)
noncomputable def Da (ws:List Int)(k:Nat):Nat:=(Ao1 ws k).toNat
theorem Aux (ws:List Int){k:Nat}(hk:k<5):((Da ws k:Nat):Int)=Ao1 ws k:=by
 have:=Auw ws hk;unfold Da;exact Zc this
noncomputable def Abk (ws:List Int):List PV:=([0,1,2,3,4]:List Nat).map fun k=>.int (Da ws k:Nat)
theorem Ym (ws:List Int){k:Nat}(hk:k<5):(Abk ws)[k]?=some (.int (Da ws k:Nat)):=by
 have:k=0\/k=1\/k=2\/k=3\/k=4:=(A3u hk);rcases this with rfl|rfl|rfl|rfl|rfl<;>rfl
theorem A69 (V:Sl)(Z:Mu):Np (Ak (kE (.int 5)) Bk) Q2 V Z=some (Nf 0 5,([0,1,2,3,4]:List Nat).length,Z):=rfl
theorem Ahy (Z:Mu)(j:Nat):Nf 0 5 j Z=some ((([0,1,2,3,4]:List Nat).map fun(v:Nat)=>MV.p (.int (v:Nat)))[j]?):=by
 rw[U8];rfl
theorem Ba7 {Z:Mu}(l:List Int):A18 [.p (.list (l.map PV.int))] Z=some (.p (.int l.sum),Z):=Is (Uf l)
theorem A51 (l:List (Int×Nat))(k:Nat):(l.filterMap fun q=>if q.2%5=k then some (PV.int (q.1.fmod 1000000)) else none)=(l.filterMap fun q=>if q.2%5=k then some (q.1.fmod 1000000) else none).map PV.int:=by
 rw[List.map_filterMap]
 congr 1
 funext q;split<;>rfl
theorem Auv {f:List MV->Mu->Option (MV×Mu)}{e:EM}{V:Sl}{Z Z':Mu}{x:MV}{r:MV×Mu}(h:e V Z=some (x,Z'))(O:f [x] Z'=some r):Cm f (Ak e Bk) V Z=some r:=by
 simp only[Cm,Ak,Bk,h,qc,O]
section
variable {ws:List Int}{o:Obj}{y:List (Option MV)}
theorem Avy {k:Nat}{Z:Mu}(L:Z[0]?=some (some (.wl (ws.map .int) o)))(N:ws.length<=63):
  Rg [none,none,some 0] (Np (Ak (slE false (vE 2) noP (atP (kE (.int 60)))) Bk) Ajs) (T3 2 (Gi (Bc 0) (Gi (Bc 1) Rl))) (tB (bE eqF (bE (i2 Jp) (vE 0) (kE (.int 5))) (vE 2))) (Nt (bE (i2 Jp) (vE 1) (kE (.int 1000000)))) [some (.p (.int (k:Nat))),some (.p (.list (Nq.map .int))),some (.mu 0)] Z=
   some (.p (.list (((ws.take 60).zipIdx.filterMap fun q=>if q.2%5=k then some (q.1.fmod 1000000) else none).map PV.int)),Z):=by
 have B:(ws.map PV.int).length<=16777216:=by rw[Bn];exact Ab N (by decide)
 have W:slE false (vE 2) noP (atP (kE (.int 60))) [some (.p (.int (k:Nat))),some (.p (.list (Nq.map .int))),some (.mu 0)] Z=some (.p (.list ((ws.take 60).map .int)),Z):=by
  show((E0 Z (.mu 0)).bind fun l=>if l.length<=16777216 then(if false=true then some (MV.mu Z.length,Z++[some (.lst (cut none (some 60) l))]) else some (.p (.list (cut none (some 60) l)),Z)) else none)=_;rw[show E0 Z (.mu 0)=some (ws.map .int) by dsimp only[E0];rw[L]];refine(if_pos B).trans ?_;rw[show cut none (some (60:Int)) (ws.map PV.int)=(ws.map PV.int).take 60 from Au6 _ 60,<-Alw];rfl
 have p:Np (Ak (slE false (vE 2) noP (atP (kE (.int 60)))) Bk) Ajs [some (.p (.int (k:Nat))),some (.p (.list (Nq.map .int))),some (.mu 0)] Z=some (Ahf (.p (.list ((ws.take 60).map .int))),(ws.take 60).zipIdx.length,Z):=by
  unfold Np Ak;rw[W];show some (_,((ws.take 60).map PV.int).length,Z)=_;rw[Bn,Ay3]
 have c:∀j,Ahf (.p (.list ((ws.take 60).map .int))) j Z=some (((ws.take 60).zipIdx.map fun q=>MV.p (.tuple [.int (q.2:Nat),.int q.1]))[j]?):=fun j=>by
  show some ((((ws.take 60).map PV.int)[j]?).map _)=_;simp only[B0,List.getElem?_zipIdx,Cg];cases (ws.take 60)[j]?<;>rfl
 have r:∀q:Int×Nat,(((q.2%5:Nat):Int)==(k:Int))=decide (q.2%5=k):=fun q=>by
  rw[Hv,beq_iff_eq,decide_eq_true_iff];exact Ie
 have d:∀x:Int,i2 Jp (.p (.int x)) (.p (.int 1000000)) Z=some (.p (.int (x.fmod 1000000)),Z):=fun x=>rfl;have:=Wx (caps:=[none,none,some 0]) (t:=T3 2 (Gi (Bc 0) (Gi (Bc 1) Rl))) (b:=tB (bE eqF (bE (i2 Jp) (vE 0) (kE (.int 5))) (vE 2))) (f:=Nt (bE (i2 Jp) (vE 1) (kE (.int 1000000))))
  (V:=[some (.p (.int (k:Nat))),some (.p (.list (Nq.map .int))),some (.mu 0)]) (Z:=Z) p c (fun V=>∃x g,V=[x,g,some (.p (.int (k:Nat)))]) (fun q=>if q.2%5=k then some (PV.int (q.1.fmod 1000000)) else none) (fun V q l H hq N=>by
   refine exe2 H fun x g w=>?_;subst w;refine⟨[some (.p (.int (q.2:Nat))),some (.p (.int q.1)),some (.p (.int (k:Nat)))],rfl,?_⟩;have A:tB (bE eqF (bE (i2 Jp) (vE 0) (kE (.int 5))) (vE 2)) [some (.p (.int (q.2:Nat))),some (.p (.int q.1)),some (.p (.int (k:Nat)))] Z=some (decide (q.2%5=k),Z):=by
    simp only[tB,bE,vE,kE,qe,qf,qc,Jd (a:=q.2) (b:=5) (b':=5) rfl (by decide),To,Ml,qd,r]
   by_cases h:q.2%5=k
   ·refine .inl ⟨_,[some (.p (.int (q.2:Nat))),some (.p (.int q.1)),some (.p (.int (k:Nat)))],if_pos h,by rw[A,decide_eq_true h],W0 ?_ N,⟨_,_,rfl⟩⟩;simp only[bE,vE,kE,qe,qf,qc,d]
   ·exact .inr ⟨if_neg h,by rw[A,decide_eq_false h],⟨_,_,rfl⟩⟩) rfl ⟨_,_,rfl⟩ (by rw[Ay3,Ef];exact Ab (Ab (G5 _ _) (At _)) (by decide))
 rw[this,A51]
noncomputable def lwF (ws:List Int)(y:List (Option MV)):Sl:=some (.mu 0)::some (.p (.list (Abk ws)))::y
theorem A1g {Z:Mu}(L:Z[0]?=some (some (.wl (ws.map .int) o)))(N:ws.length<=63)(r:SM):B5 lw1 (B5 lw2 r) (some (.mu 0)::none::y) Z=r (lwF ws y) Z:=by
 have W:lw1 (some (.mu 0)::none::y) Z=some (.next,some (.mu 0)::some (.p (.list (Nq.map .int)))::y,Z):=rfl;have e:=Wx (caps:=[none,some 1,some 0]) (t:=Bc 0) (b:=T2) (V:=some (.mu 0)::some (.p (.list (Nq.map .int)))::y) (Z:=Z)
  (f:=Nt (bE Fg (bE D6 (vE 1) (vE 0)) (Cm A18 (Ak (Rg [none,none,some 0] (Np (Ak (slE false (vE 2) noP (atP (kE (.int 60)))) Bk) Ajs) (T3 2 (Gi (Bc 0) (Gi (Bc 1) Rl))) (tB (bE eqF (bE (i2 Jp) (vE 0) (kE (.int 5))) (vE 2))) (Nt (bE (i2 Jp) (vE 1) (kE (.int 1000000))))) Bk))))
  (A69 _ _) (Ahy Z) (fun V=>∃x,V=[x,some (.p (.list (Nq.map .int))),some (.mu 0)]) (fun k=>some (.int (Da ws k:Nat))) (fun V k l H hk c=>by
   obtain⟨x,rfl⟩:=H;have hk:k<5:=by
    have:∀k∈([0,1,2,3,4]:List Nat),k<5:=by decide
    exact this k hk
   refine⟨[some (.p (.int (k:Nat))),some (.p (.list (Nq.map .int))),some (.mu 0)],rfl,.inl ⟨_,_,rfl,rfl,W0 ?_ c,⟨_,rfl⟩⟩⟩;have M:(Nq.map PV.int)[k]?=some (.int (Nq.getD k 0)):=by
    have:k=0\/k=1\/k=2\/k=3\/k=4:=(A3u hk);rcases this with rfl|rfl|rfl|rfl|rfl<;>rfl
   have g:D6 (.p (.list (Nq.map PV.int))) (.p (.int (k:Nat))) Z=some (.p (.int (Nq.getD k 0)),Z):=Ahk (by decide) M;have v:bE D6 (vE 1) (vE 0) [some (.p (.int (k:Nat))),some (.p (.list (Nq.map .int))),some (.mu 0)] Z=some (.p (.int (Nq.getD k 0)),Z):=by
    simp only[bE,vE,qe,qf,qc,g]
   rw[Wq v (Auv (Avy L N) (Ba7 _)),Ti,Aux ws hk];rfl) rfl ⟨_,rfl⟩ (by decide)
 have D:lw2 (some (.mu 0)::some (.p (.list (Nq.map .int)))::y) Z=some (.next,lwF ws y,Z):=by
  unfold lw2;simp only[Cp,e,qc];rfl
 rw[Bw W,Bw D]
noncomputable def P6 (c:Nat):Nat:=1+c/6%4
noncomputable def T4 (c:Nat):Nat:=1+c/24%4
noncomputable def Xb (c:Nat):Nat:=5*(c/96%3)
theorem A6s {Z:Mu}{x2 x f e:Option MV}:lw3 (lwF ws (x2::x::f::e::y)) Z=some (.next,lwF ws (x2::some (.p (.int (P6 (Da ws 4):Nat)))::some (.p (.int (T4 (Da ws 4):Nat)))::some (.p (.int (Xb (Da ws 4):Nat)))::y),Z):=by
 have D:D6 (.p (.list (Abk ws))) (.p (.int 4)) Z=some (.p (.int (Da ws 4:Nat)),Z):=Ahk (j:=4) (show 5<=16777216 by decide) (Ym ws (by decide));have c:(1:Int)+((Da ws 4/6%4:Nat):Int)=(P6 (Da ws 4):Nat):=by unfold P6;exact rfl
 have k:(1:Int)+((Da ws 4/24%4:Nat):Int)=(T4 (Da ws 4):Nat):=by unfold T4;exact rfl
 have d:(5:Int)*((Da ws 4/96%3:Nat):Int)=(Xb (Da ws 4):Nat):=by unfold Xb;exact rfl
 unfold lw3;apply Fu (Sh (Bz (Du rfl (Du (Du (Du rfl rfl ?_) rfl ?_) rfl ?_) ?_) (Bz (Du rfl (Du (Du (Du rfl rfl ?_) rfl ?_) rfl ?_) ?_) (Bz (Du rfl (Du (Du (Du rfl rfl ?_) rfl ?_) rfl ?_) ?_) rfl))) ?_ rfl) ?_<;>first|exact Cg|exact D|exact Tm (a:=Da ws 4) (b:=6) (b':=6) rfl (by decide) (by decide)|exact Tm (a:=Da ws 4) (b:=24) (b':=24) rfl (by decide) (by decide)|exact Tm (a:=Da ws 4) (b:=96) (b':=96) rfl (by decide) (by decide)|exact Jd (a:=Da ws 4/6) (b:=4) (b':=4) rfl (by decide)|exact Jd (a:=Da ws 4/24) (b:=4) (b':=4) rfl (by decide)|exact Jd (a:=Da ws 4/96) (b:=3) (b':=3) rfl (by decide)|exact Qz (a:=5) (b:=((Da ws 4/96%3:Nat):Int)) (by decide) (by rw[Dw];exact Ah (show Da ws 4/96%3<=3 from(Ab (Ai (Cr _ (by decide))) (by decide))) (by decide))|exact c|exact k|exact d|exact congrArg (fun z=>some (MV.p (PV.int z),_)) D|exact congrArg (fun z=>some (MV.p (PV.int z),_)) c|exact congrArg (fun z=>some (MV.p (PV.int z),_)) k|exact congrArg (fun z=>some (MV.p (PV.int z),_)) d|rfl|exact Ee rfl|decide|skip
theorem Aw0 (i:Nat)(r:List MV):Lb (.mu i::r)=none:=rfl
theorem A6t {Z:Mu}{x2 x f e c x7:Option MV}(U:Z.length=1):lw4 (lwF ws (x2::x::f::e::c::x7::y)) Z=some (.next,lwF ws (x2::x::f::e::some (.mu 1)::some (.mu 2)::y),Z++[some (.lst [.int 0]),some (.lst [])]):=by
 unfold lw4 lwF;simp only[Cp,K3,Cp,It,Ak,Bk,kE,swT,Sq,Gi,Rl,Bc,qc,qd,qi,qj,Iz,A4n,qm,qo,qg,qh,Nat.reduceAdd,Nat.reduceLeDiff,reduceIte,Cg,Kf,Kg,Aw0,mkTup,Kp,As,U,Az]
end
end
section
noncomputable def Ack (ws:List Int)(k:Nat):Nat:=if k=P6 (Da ws 4)\/k=T4 (Da ws 4) then Da ws (k-1)%4096*16+Xb (Da ws 4)+(if k=P6 (Da ws 4) then T4 (Da ws 4) else P6 (Da ws 4)) else Da ws (k-1)%4096
noncomputable def p0 (ws:List Int)(v:Nat):Nat:=if v=0 then 0 else Ack ws v
theorem A1r (c:Nat):1<=P6 c/\P6 c<=4:=by unfold P6;exact⟨(Bl _ _),(Ar (Ai (Cr _ (by decide))) _)⟩
theorem A2k (c:Nat):1<=T4 c/\T4 c<=4:=by unfold T4;exact⟨(Bl _ _),(Ar (Ai (Cr _ (by decide))) _)⟩
theorem A1b (c:Nat):Xb c<=10:=by unfold Xb;exact Au _ (Ai (Cr _ (by decide)))
theorem Aws (ws:List Int)(k:Nat):Ack ws k<65536/\(¬(k=P6 (Da ws 4)\/k=T4 (Da ws 4))->Ack ws k<4096):=by
 have U:=A1r (Da ws 4);have O:=A2k (Da ws 4);have C:=A1b (Da ws 4);unfold Ack;constructor
 ·split
  ·split<;>first|exact Ah (Ax (Ax (Gn _ (Ai (Cr _ (by decide)))) C) O.2) (by decide)|exact Ah (Ax (Ax (Gn _ (Ai (Cr _ (by decide)))) C) U.2) (by decide)
  ·exact Ah (Ai (Cr _ (by decide))) (by decide)
 ·intro h;rw[if_neg h];exact Ah (Ai (Cr _ (by decide))) (by decide)
theorem A37 (ws:List Int)(v:Nat):p0 ws v<65536:=by
 unfold p0;split
 ·decide
 ·exact(Aws ws v).1
theorem Awu (ws:List Int):Bt (p0 ws) fun _=>0 where
 b:=fun v _ _=>by rw[Nat.pow_zero,Nat.mul_one];exact A37 ws v
 t:=fun v _ _=>by rw[Cg];exact A32 _
theorem A79 (o w:Nat):(if 1=o\/1=w then 1 else 0)+(if 2=o\/2=w then 1 else 0)+(if 3=o\/3=w then 1 else 0)+(if 4=o\/4=w then 1 else 0)<=2:=by
 have k:∀o<5,∀w<5,((if 1=o\/1=w then 1 else 0)+(if 2=o\/2=w then 1 else 0)+(if 3=o\/3=w then 1 else 0)+(if 4=o\/4=w then 1 else 0):Nat)<=2:=by decide
 have h:∀i o:Nat,1<=i->i<=4->(i=o↔i=(if o<5 then o else 0)):=fun i o U G=>by split<;>lia
 simp only[h 1 o (by decide) (by decide),h 2 o (by decide) (by decide),h 3 o (by decide) (by decide),h 4 o (by decide) (by decide),h 1 w (by decide) (by decide),h 2 w (by decide) (by decide),h 3 w (by decide) (by decide),h 4 w (by decide) (by decide)];exact k _ (by split<;>first|exact(by assumption)|exact(by decide)) _ (by split<;>first|exact(by assumption)|exact(by decide))
theorem A36 (ws:List Int):Ms (p0 ws)<=14:=by
 have key:∀v,1<=v->lg (p0 ws v)<=3+(if v=P6 (Da ws 4)\/v=T4 (Da ws 4) then 1 else 0):=fun v F=>by
  by_cases h:v=P6 (Da ws 4)\/v=T4 (Da ws 4)
  ·rw[if_pos h];exact A32 _
  ·rw[if_neg h];refine A6n ?_;unfold p0;rw[if_neg (Ga F)];exact(Aws ws v).2 h
 exact Ab (Ax (Ax (Ax (key 1 (by decide)) (key 2 (by decide))) (key 3 (by decide))) (key 4 (by decide))) (by have:=A79 (P6 (Da ws 4)) (T4 (Da ws 4));lia)
theorem Am2 {Z:Mu}(k a b:Nat):inF (.p (.int (k:Nat))) (.p (.tuple [.int (a:Nat),.int (b:Nat)])) Z=some (.p (.bool (decide (k=a\/k=b))),Z):=by
 have h:([PV.int (a:Nat),PV.int (b:Nat)].any fun y=>y.py.eqv (PV.int (k:Nat)).py)=decide (k=a\/k=b):=by
  show(((a:Int)==(k:Int))||(((b:Int)==(k:Int))||false))=_;rw[Hv,decide_eq_true_iff,Zb,A8c,beq_iff_eq,beq_iff_eq,Ie,Ie];exact or_congr eq_comm eq_comm
 dsimp only[inF,S3,qc,inP];rw[if_pos ⟨rfl,rfl⟩,h];rfl
theorem Bad {e:EM}{V:Sl}{Z:Mu}{x:MV}(h:e V Z=some (x,Z)):Ak e Bk V Z=some ([x],Z):=by simp only[Ak,Bk,h,qc]
section
variable {ws:List Int}{o:Obj}{x2 x8 x9 x10 x11:Option MV}
noncomputable def lwG (ws:List Int)(x2 x8 x9 x10 x11:Option MV):Sl:=lwF ws [x2,some (.p (.int (P6 (Da ws 4):Nat))),some (.p (.int (T4 (Da ws 4):Nat))),some (.p (.int (Xb (Da ws 4):Nat))),some (.mu 1),some (.mu 2),x8,x9,x10,x11]
theorem Awc {k:Nat}{N:List PV}{w0 w2:Option MO}(U:1<=k)(G:k<=4)(j:N.length<=10):Apw (lwG ws (some (.p (.int (k:Nat)))) x8 x9 x10 x11) [w0,some (.lst N),w2]=
  some (.next,lwG ws (some (.p (.int (k:Nat)))) (some (.p (.int (Da ws (k-1)%4096:Nat)))) x9 x10 x11,[w0,some (.lst (N++[.int (Ack ws k:Nat)])),w2]):=by
 have i:(k:Int)-1=((k-1:Nat):Int):=(Aot U);have o:∀Z:Mu,D6 (.p (.list (Abk ws))) (.p (.int ((k-1:Nat):Int))) Z=some (.p (.int (Da ws (k-1):Nat)),Z):=fun Z=>Ahk (show 5<=16777216 by decide) (Ym ws (Ah (Ab (Dy _ _) G) (by decide)));have L:=Cr (Da ws (k-1)) (show 0<4096 by decide);have W:Awd (lwG ws (some (.p (.int (k:Nat)))) x8 x9 x10 x11) [w0,some (.lst N),w2]=some (.next,lwG ws (some (.p (.int (k:Nat)))) (some (.p (.int (Da ws (k-1)%4096:Nat)))) x9 x10 x11,[w0,some (.lst N),w2]):=by
  unfold Awd lwG lwF;simp only[Cp,bE,vE,kE,Bc,qe,qf,qc,qd,Y4,qg,qh,i,o,Jd (a:=Da ws (k-1)) (b:=4096) (b':=4096) rfl (by decide)]
 generalize m:Da ws (k-1)%4096=c at *;have e:Y6 "list" [w0,some (.lst N),w2] (.mu 1)=true:=Z4 (l:=N) rfl;have q:∀x,Ix [.mu 1,.p x] [w0,some (.lst N),w2]=some (.p .none,[w0,some (.lst (N++[x])),w2]):=fun x=>Yd (l:=N) rfl (Ab (by assumption) (by decide));have g:iE (tB (bE inF (vE 2) (It (Ak (vE 3) (Ak (vE 4) Bk))))) (bE Fg (bE Fg (bE Sa (vE 8) (kE (.int 16))) (vE 5)) (iE (tB (bE eqF (vE 2) (vE 3))) (vE 4) (vE 3))) (vE 8) (lwG ws (some (.p (.int (k:Nat)))) (some (.p (.int (c:Nat)))) x9 x10 x11) [w0,some (.lst N),w2]=some (.p (.int (Ack ws k:Nat)),[w0,some (.lst N),w2]):=by
  have n:((k:Int)==(P6 (Da ws 4):Nat))=decide (k=P6 (Da ws 4)):=by rw[Hv,beq_iff_eq,decide_eq_true_iff];exact Ie
  have h:Ack ws k=if k=P6 (Da ws 4)\/k=T4 (Da ws 4) then c*16+Xb (Da ws 4)+(if k=P6 (Da ws 4) then T4 (Da ws 4) else P6 (Da ws 4)) else c:=by unfold Ack;rw[m]
  have d:Sa (.p (.int (c:Nat))) (.p (.int 16)) [w0,some (.lst N),w2]=some (.p (.int ((c:Int)*16)),[w0,some (.lst N),w2]):=Qz (by rw[Dw];exact Cv L (by decide)) (by decide);unfold lwG lwF;by_cases f:k=P6 (Da ws 4)\/k=T4 (Da ws 4)
  ·rw[h,if_pos f];by_cases U:k=P6 (Da ws 4)
   ·rw[if_pos U];simp only[It,Ak,Bk,bE,vE,kE,iE,tB,qe,qf,qc,qd,Ti,To,Ml,Ars,qi,qj,Nat.reduceAdd,Nat.reduceLeDiff,Cg,Am2,decide_eq_true f,if_true,d,n,decide_eq_true U]
    congr 4
   ·rw[if_neg U];simp only[It,Ak,Bk,bE,vE,kE,iE,tB,qe,qf,qc,qd,Ti,To,Ml,Ars,qi,qj,Nat.reduceAdd,Nat.reduceLeDiff,reduceIte,Cg,Ch,Am2,decide_eq_true f,if_true,d,n,decide_eq_false U]
    congr 4
  ·rw[h,if_neg f];simp only[It,Ak,Bk,bE,vE,kE,iE,tB,qe,qf,qc,qd,To,Ml,Ars,qi,qj,Nat.reduceAdd,Nat.reduceLeDiff,reduceIte,Cg,Ch,Am2,decide_eq_false f]
 have D:Awe (lwG ws (some (.p (.int (k:Nat)))) (some (.p (.int (c:Nat)))) x9 x10 x11) [w0,some (.lst N),w2]=some (.next,lwG ws (some (.p (.int (k:Nat)))) (some (.p (.int (c:Nat)))) x9 x10 x11,[w0,some (.lst (N++[.int (Ack ws k:Nat)])),w2]):=by
  have v:vE 6 (lwG ws (some (.p (.int (k:Nat)))) (some (.p (.int (c:Nat)))) x9 x10 x11) [w0,some (.lst N),w2]=some (.mu 1,[w0,some (.lst N),w2]):=rfl;unfold Awe;simp only[H5,Gq,v,qc,e,if_true];rw[Bad g];simp only[qc,q,qd]
 unfold Apw;rw[Bw W,Bw D];rfl
theorem Afp {w0 w2:Option MO}:∀(a:List Nat) (N:List PV) (x2 x8:Option MV),(∀k∈a,1<=k/\k<=4)->N.length+a.length<=10->∃s w,Eo (Bc 2) Apw (a.map fun(k:Nat)=>.p (.int (k:Nat))) (lwG ws x2 x8 x9 x10 x11) [w0,some (.lst N),w2]=
  some (.next,lwG ws s w x9 x10 x11,[w0,some (.lst (N++a.map fun k=>.int (Ack ws k:Nat))),w2])
 |[],N,x2,x8,_,_=>exi2 x2 x8 (by rw[ql,ql,Ct];rfl)
 |k::a,N,x2,x8,h,j=>by
  have U:=(h k (An ..)).1;have G:=(h k (An ..)).2;obtain⟨s,w,e⟩:=Afp a (N++[.int (Ack ws k:Nat)]) (some (.p (.int (k:Nat)))) (some (.p (.int (Da ws (k-1)%4096:Nat)))) (fun v F=>h v (A4 _ F)) (by simp at j |-;exact Aba j);refine exi2 s w ?_;rw[qk,Tq (V1z:=lwG ws (some (.p (.int (k:Nat)))) x8 x9 x10 x11) rfl (Awc U G (by simp at j;exact Bm j)),e,Az];rfl
theorem A6u {w0 w2:Option MO}:∃s w,lw5 (lwG ws x2 x8 x9 x10 x11) [w0,some (.lst [.int 0]),w2]=some (.next,lwG ws s w x9 x10 x11,[w0,some (.lst (Ao (p0 ws))),w2]):=by
 refine exe2 (Afp (ws:=ws) (x9:=x9) (x10:=x10) (x11:=x11) (w0:=w0) (w2:=w2) [1,2,3,4] [.int 0] x2 x8 (by decide) (by decide)) fun s w e=>?_;refine exi2 s w ?_;unfold lw5 Baw;rw[A0x (items:=([1,2,3,4]:List Nat).map fun(v:Nat)=>MV.p (.int (v:Nat))) (Ahx _ _) (fun j Z'=>Q1 Z' j),e];rfl
end
end
section
theorem Bcg (V:Sl)(Z:Mu):Z3 (It (Ak (kE (.int 3)) (Ak (kE (.int 2)) (Ak (kE (.int 1)) (Ak (kE (.int 0)) Bk))))) V Z=some (Akf (.p (.tuple [.int 3,.int 2,.int 1,.int 0])),([3,2,1,0]:List Nat).length,Z):=rfl
theorem Anp (Z:Mu)(j:Nat):Akf (.p (.tuple [.int 3,.int 2,.int 1,.int 0])) j Z=some ((([3,2,1,0]:List Nat).map fun(v:Nat)=>MV.p (.int (v:Nat)))[j]?):=Vx rfl j
theorem A35 {Z:Mu}{a b:Array UInt8}:neF (.p (.bytes a)) (.p (.bytes b)) Z=some (.p (.bool (!(a.toList==b.toList))),Z):=rfl
theorem A8a {n:Nat}{Z:Mu}:Aql [.p (Ej n)] Z=some (.p (.typ "bytes"),Z):=rfl
theorem A6c {Z:Mu}:Apo (.p (.typ "bytes")) (.p (.typ "bytes")) Z=some (.p (.bool false),Z):=show(if "bytes"="bytes"∧"bytes"="bytes" then some ((.p (.bool false):MV),Z) else none)=_ from if_pos ⟨rfl,rfl⟩
section
variable {ws:List Int}{o:Obj}{x2 x8 x9 x10 x11:Option MV}
noncomputable def Pr (n:Nat):List UInt8:=Bb (4-(F0 n).length) (65:UInt8)++F0 n
theorem Awf {n:Nat}{Z:Mu}{V:Sl}(W:V[8]?=some (some (.p (.int (n:Nat))))):Rg [none,some 8] (Z3 (It (Ak (kE (.int 3)) (Ak (kE (.int 2)) (Ak (kE (.int 1)) (Ak (kE (.int 0)) Bk)))))) (Bc 0) T2 (Nt (bE Fg (kE (.int 65)) (bE (i2 Jp) (bE (i2 Nu) (vE 1) (bE (i2 Acr) (kE (.int 16)) (vE 0))) (kE (.int 16))))) V Z=
  some (.p (.list (([65+n/4096%16,65+n/256%16,65+n/16%16,65+n%16]:List Nat).map fun d=>.int (d:Nat))),Z):=by
 have L:Pi [none,some 8] V=[none,some (.p (.int (n:Nat)))]:=by
  unfold Pi;simp only[qk,ql,W];rfl
 have e:=Wx (caps:=[none,some 8]) (t:=Bc 0) (b:=T2) (V:=V) (Z:=Z) (f:=Nt (bE Fg (kE (.int 65)) (bE (i2 Jp) (bE (i2 Nu) (vE 1) (bE (i2 Acr) (kE (.int 16)) (vE 0))) (kE (.int 16)))))
  (Bcg _ _) (Anp Z) (fun V=>∃x,V=[x,some (.p (.int (n:Nat)))]) (fun k=>some (.int ((65+n/16^k%16:Nat):Int))) (fun V k l H hk N=>by
   obtain⟨x,rfl⟩:=H;have hk:k<5:=by
    have:∀k∈([3,2,1,0]:List Nat),k<5:=by decide
    exact this k hk
   have I:16^k<2^900:=Ah (Er (by decide) (show k<=5 from(Ab (Ai hk) (by decide)))) (by decide);refine⟨[some (.p (.int (k:Nat))),some (.p (.int (n:Nat)))],rfl,.inl ⟨_,_,rfl,rfl,W0 ?_ N,⟨_,rfl⟩⟩⟩;simp only[bE,kE,vE,qe,qf,qc,A1v 16 k (by decide) (Ab (Ai hk) (by decide)) (a':=16) rfl,Tm (a:=n) (b:=16^k) rfl (Lu.mp (Xx (by decide))) I,Jd (a:=n/16^k) (b:=16) (b':=16) rfl (by decide),Ti]
   congr 4) (by unfold Yl;simp only[Fw,List.all_nil,W];rfl) (by rw[L];exact⟨_,rfl⟩) (by decide)
 rw[e];have U:n/16^3=n/4096:=rfl;have O:n/16^2=n/256:=rfl;have C:n/16^1=n/16:=rfl;have G:n/16^0=n:=Nat.div_one n;simp only[List.filterMap_cons,List.filterMap_nil,U,O,C,G,qk,ql]
theorem Awg {n:Nat}(K:n<65536){Wl:List PV}{w0 w1:Option MO}(p:Wl.length<=10):Apx (lwG ws x2 (some (.p (.int (n:Nat)))) x9 x10 x11) [w0,w1,some (.lst Wl)]=
  some (.next,lwG ws x2 (some (.p (.int (n:Nat)))) (some (.p (Ej n))) (some (.p (.bytes (Pr n).toArray))) x11,[w0,w1,some (.lst (Wl++[Ej n]))]):=by
 have E:=Ru K;have j:∀Z:Mu,fcF O5 [.p (.int (n:Nat))] Z=some (.p (Ej n),Z):=fun Z=>A5d (Dw n) K;have b:∀Z:Mu,fcF O5 [.p (.int (-(n:Int)))] Z=some (.p (Ej n),Z):=fun Z=>A5d (A3p _) K;have W:Awh (lwG ws x2 (some (.p (.int (n:Nat)))) x9 x10 x11) [w0,w1,some (.lst Wl)]=some (.next,lwG ws x2 (some (.p (.int (n:Nat)))) (some (.p (Ej n))) x10 x11,[w0,w1,some (.lst Wl)]):=by
  unfold Awh lwG lwF;simp only[Cp,Cm,Ak,Bk,vE,qe,qf,qc,j,Bc,qd,qg,qh]
 have i:(F0 n).toArray.size=(F0 n).length:=D4;have D:Awi (lwG ws x2 (some (.p (.int (n:Nat)))) (some (.p (Ej n))) x10 x11) [w0,w1,some (.lst Wl)]=some (.next,lwG ws x2 (some (.p (.int (n:Nat)))) (some (.p (Ej n))) (some (.p (.bytes (Pr n).toArray))) x11,[w0,w1,some (.lst Wl)]):=by
  have h:∀Z:Mu,Tw [.p (Ej n)] Z=some (.p (.int ((F0 n).length:Nat)),Z):=fun Z=>by
   rw[<-i];exact if_pos (i▸Ab E (by decide))
  have G:(4:Int)-((F0 n).length:Nat)=((4-(F0 n).length:Nat):Int):=(Aot E);have R:∀Z:Mu,Sa (.p (.bytes ([65]:List UInt8).toArray)) (.p (.int ((4-(F0 n).length:Nat):Int))) Z=some (.p (.bytes (Bb (4-(F0 n).length) (65:UInt8)).toArray),Z):=fun Z=>by
   refine(if_pos ⟨by decide,(By _),D7.mpr (Ab (Dy _ _) (by decide)),by decide⟩).trans ?_;rw[Adg];show some (MV.p (.bytes (Bb (4-(F0 n).length) [(65:UInt8)]).flatten.toArray),Z)=_;rw[List.flatten_replicate_singleton]
  have M:∀Z:Mu,Fg (.p (.bytes (Bb (4-(F0 n).length) (65:UInt8)).toArray)) (.p (Ej n)) Z=some (.p (.bytes (Pr n).toArray),Z):=fun Z=>by
   unfold Pr;refine(if_pos (by rw[i];simp;exact Ab (Ax (Ab (Dy _ _) (At _)) E) (by decide))).trans ?_;rw[Ayk]
  unfold Awi lwG lwF;simp only[Cp,bE,Cm,Ak,Bk,vE,kE,qe,qf,qc,h,Y4,G,R,M,Bc,qd,qg,qh]
 have k:Am9 (lwG ws x2 (some (.p (.int (n:Nat)))) (some (.p (Ej n))) (some (.p (.bytes (Pr n).toArray))) x11) [w0,w1,some (.lst Wl)]=some (false,[w0,w1,some (.lst Wl)]):=by
  have o:∀Z:Mu,vE 9 (lwG ws x2 (some (.p (.int (n:Nat)))) (some (.p (Ej n))) (some (.p (.bytes (Pr n).toArray))) x11) Z=some (.p (Ej n),Z):=fun _=>rfl;have v:∀Z:Mu,vE 10 (lwG ws x2 (some (.p (.int (n:Nat)))) (some (.p (Ej n))) (some (.p (.bytes (Pr n).toArray))) x11) Z=some (.p (.bytes (Pr n).toArray),Z):=fun _=>rfl;have f:bE Apo (Cm Aql (Ak (vE 9) Bk)) (kE (.typ "bytes")) (lwG ws x2 (some (.p (.int (n:Nat)))) (some (.p (Ej n))) (some (.p (.bytes (Pr n).toArray))) x11) [w0,w1,some (.lst Wl)]=some (.p (.bool false),[w0,w1,some (.lst Wl)]):=by
   rw[Wq (Auv (o _) A8a) rfl,A6c]
  have Y:Abh [.p (.list (([65+n/4096%16,65+n/256%16,65+n/16%16,65+n%16]:List Nat).map fun d=>.int (d:Nat)))] [w0,w1,some (.lst Wl)]=some (.p (.bytes (Pr n).toArray),[w0,w1,some (.lst Wl)]):=by
   have H:(([65+n/4096%16,65+n/256%16,65+n/16%16,65+n%16]:List Nat).map fun d=>PV.int (d:Nat))=(([65+n/4096%16,65+n/256%16,65+n/16%16,65+n%16]:List Nat).map fun(d:Nat)=>(d:Int)).map .int:=by rw[F6];rfl
   simp only[Abh,E0,qc];rw[H,Uf];simp only[qc];rw[if_pos]
   ·have:byteArr (([65+n/4096%16,65+n/256%16,65+n/16%16,65+n%16]:List Nat).map fun(d:Nat)=>(d:Int))=(Pr n).toArray:=by
     unfold Pr;rw[Asn K];rfl
    rw[this]
   ·refine⟨Bd.mpr fun z hz=>?_,by simp⟩;obtain⟨d,hd,rfl⟩:=Bj.mp hz;simp only[Av,Le,or_false] at hd;rcases hd with rfl|rfl|rfl|rfl<;>exact decide_eq_true (A99 _)
  have U:bE neF (vE 10) (Cm Abh (Ak (Rg [none,some 8] (Z3 (It (Ak (kE (.int 3)) (Ak (kE (.int 2)) (Ak (kE (.int 1)) (Ak (kE (.int 0)) Bk)))))) (Bc 0) T2 (Nt (bE Fg (kE (.int 65)) (bE (i2 Jp) (bE (i2 Nu) (vE 1) (bE (i2 Acr) (kE (.int 16)) (vE 0))) (kE (.int 16)))))) Bk)) (lwG ws x2 (some (.p (.int (n:Nat)))) (some (.p (Ej n))) (some (.p (.bytes (Pr n).toArray))) x11) [w0,w1,some (.lst Wl)]=some (.p (.bool false),[w0,w1,some (.lst Wl)]):=by
   rw[Wq (v _) (Auv (Awf rfl) Y),A35];simp
  have c:∀Z:Mu,slE false (vE 9) noP (atP (kE (.int 1))) (lwG ws x2 (some (.p (.int (n:Nat)))) (some (.p (Ej n))) (some (.p (.bytes (Pr n).toArray))) x11) Z=some (.p (.bytes ((F0 n).take 1).toArray),Z):=fun Z=>by
   simp only[slE,o,qc,noP,atP,kE];unfold Ej;simp only[Au5];rw[if_pos (by rw[i];exact Ab E (by decide))];show some (MV.p (.bytes (cut none (some ((1:Nat):Int)) (F0 n)).toArray),Z)=_;rw[Au6]
  have t:bE eqF (slE false (vE 9) noP (atP (kE (.int 1)))) (kE (.bytes ([65]:List UInt8).toArray)) (lwG ws x2 (some (.p (.int (n:Nat)))) (some (.p (Ej n))) (some (.p (.bytes (Pr n).toArray))) x11) [w0,w1,some (.lst Wl)]=some (.p (.bool false),[w0,w1,some (.lst Wl)]):=by
   rw[Wq (c _) rfl,A3x];have a:((F0 n).take 1==([65]:List UInt8))=false:=beq_eq_false_iff_ne.mpr (Aoa K);show some (MV.p (.bool ((F0 n).take 1==([65]:List UInt8))),_)=_;rw[a]
  unfold Am9;simp only[orB,tB,f,U,t,qc,Ml,qd,Ch,if_false,Vo]
 have N:Awj (lwG ws x2 (some (.p (.int (n:Nat)))) (some (.p (Ej n))) (some (.p (.bytes (Pr n).toArray))) x11) [w0,w1,some (.lst Wl)]=some (.next,lwG ws x2 (some (.p (.int (n:Nat)))) (some (.p (Ej n))) (some (.p (.bytes (Pr n).toArray))) x11,[w0,w1,some (.lst Wl)]):=by
  unfold Awj;simp only[ifX,k,qc,Ch,if_false,E5]
 have g:Ana (lwG ws x2 (some (.p (.int (n:Nat)))) (some (.p (Ej n))) (some (.p (.bytes (Pr n).toArray))) x11) [w0,w1,some (.lst Wl)]=some (false,[w0,w1,some (.lst Wl)]):=by
  have m:∀Z:Mu,neF (.p (Ej n)) (.p (Ej n)) Z=some (.p (.bool false),Z):=fun Z=>by unfold Ej;rw[A35];simp
  unfold Ana lwG lwF;simp only[tB,bE,uE,Cm,Ak,Bk,vE,qe,qf,qc,Zn,b,m,Ml,qd]
 have O:Awk (lwG ws x2 (some (.p (.int (n:Nat)))) (some (.p (Ej n))) (some (.p (.bytes (Pr n).toArray))) x11) [w0,w1,some (.lst Wl)]=some (.next,lwG ws x2 (some (.p (.int (n:Nat)))) (some (.p (Ej n))) (some (.p (.bytes (Pr n).toArray))) x11,[w0,w1,some (.lst Wl)]):=by
  unfold Awk;simp only[ifX,g,qc,Ch,if_false,E5]
 have r:Awl (lwG ws x2 (some (.p (.int (n:Nat)))) (some (.p (Ej n))) (some (.p (.bytes (Pr n).toArray))) x11) [w0,w1,some (.lst Wl)]=some (.next,lwG ws x2 (some (.p (.int (n:Nat)))) (some (.p (Ej n))) (some (.p (.bytes (Pr n).toArray))) x11,[w0,w1,some (.lst (Wl++[Ej n]))]):=by
  have e:Y6 "list" [w0,w1,some (.lst Wl)] (.mu 2)=true:=Z4 (l:=Wl) rfl;have q:∀x,Ix [.mu 2,.p x] [w0,w1,some (.lst Wl)]=some (.p .none,[w0,w1,some (.lst (Wl++[x]))]):=fun x=>Yd (l:=Wl) rfl (Ab p (by decide));unfold Awl lwG lwF;simp only[H5,Gq,Ak,Bk,vE,qe,qf,qc,e,if_true,q,qd]
 unfold Apx;rw[Bw W,Bw D,Bw N,Bw O,Bw r];rfl
theorem Aob (p:Nat->Nat){j:Nat}(h:j<5):(Ap p).take j++[Ej (p j)]=(Ap p).take (j+1):=by
 rw[Ni (show j<(Ap p).length from h)]
 congr 2
 have:=Of (fun v=>Ej (p v)) h;have O:(Ap p)[j]?=some (Ej (p j)):=this;rw[Bx (show j<(Ap p).length from h)] at O;exact(Af O).symm
theorem Aj8 {w0:Option MO}{p:Nat->Nat}(I:∀v,p v<65536):∀(k j:Nat) (x8 x9 x10:Option MV),j+k=5->∃w o g,W3 (Akf (.mu 1)) (Bc 8) Apx (k+1) j (lwG ws x2 x8 x9 x10 x11) [w0,some (.lst (Ao p)),some (.lst ((Ap p).take j))]=
  some (.next,lwG ws x2 w o g x11,[w0,some (.lst (Ao p)),some (.lst (Ap p))])
 |0,j,x8,x9,x10,h=>by
  have:j=5:=h;subst this;exact exi3 x8 x9 x10 rfl
 |k+1,j,x8,x9,x10,h=>by
  have E:j<5:=(Amj h);refine exe3 (Aj8 (w0:=w0) I k (j+1) (some (.p (.int (p j:Nat)))) (some (.p (Ej (p j)))) (some (.p (.bytes (Pr (p j)).toArray))) (A3o h)) fun w o g e=>?_;refine exi3 w o g ?_;have c:Akf (.mu 1) j [w0,some (.lst (Ao p)),some (.lst ((Ap p).take j))]=some (some (.p (.int (p j:Nat)))):=by
   show some (((Ao p).map MV.p)[j]?)=_;rw[B0];have:(Ao p)[j]?=some (.int (p j:Nat)):=Of _ E;rw[this];rfl
  conv=>enter [1];rw[A52]
  simp only[c,qc];have d:Bc 8 (lwG ws x2 x8 x9 x10 x11) [w0,some (.lst (Ao p)),some (.lst ((Ap p).take j))] (.p (.int (p j:Nat)))=some (lwG ws x2 (some (.p (.int (p j:Nat)))) x9 x10 x11,[w0,some (.lst (Ao p)),some (.lst ((Ap p).take j))]):=rfl;have B:=Awg (ws:=ws) (x2:=x2) (x9:=x9) (x10:=x10) (x11:=x11) (n:=p j) (I j) (Wl:=(Ap p).take j) (w0:=w0) (w1:=some (.lst (Ao p))) (by rw[Ef];exact Ab (Ab (G5 _ _) (Ai E)) (by decide));rw[Aob p E] at B;simp only[d,qc,B];exact e
theorem A6v {w0:Option MO}{p:Nat->Nat}(I:∀v,p v<65536):∃w o g,lw6 (lwG ws x2 x8 x9 x10 x11) [w0,some (.lst (Ao p)),some (.lst [])]=some (.next,lwG ws x2 w o g x11,[w0,some (.lst (Ao p)),some (.lst (Ap p))]):=by
 refine exe3 (Aj8 (ws:=ws) (x2:=x2) (x11:=x11) (w0:=w0) I 5 0 x8 x9 x10 rfl) fun w o g e=>?_;exact exi3 w o g e
end
theorem A1n {Z:Mu}{l:List PV}(W:∀x∈l,okF 8 x=true)(N:∀x∈l,∃a b,x=.list (a::b)):niF (.p (.list [])) (.p (.list l)) Z=some (.p (.bool true),Z):=by
 have h:(l.any fun y=>y.py.eqv (PV.list []).py)=false:=by
  rw[Bool.eq_false_iff];intro h;obtain⟨y,T,e⟩:=A4i.mp h;refine exe2 (N y T) fun a b F=>?_;subst F;exact absurd e (by show ¬(false=true);decide)
 simp only[niF,S3,qc,inP];rw[if_pos ⟨rfl,Bd.mpr W⟩,h];rfl
theorem Av9:Aoi:=fun ws o N=>by
 have D:∀Z:Mu,D6 (.p (.list (Abk ws))) (.p (.int 4)) Z=some (.p (.int (Da ws 4:Nat)),Z):=fun Z=>Ahk (j:=4) (show 5<=16777216 by decide) (Ym ws (by decide));refine Aa fun n=>?_;refine exe2 (A6u (ws:=ws) (x2:=none) (x8:=none) (x9:=none) (x10:=none) (x11:=none) (w0:=some (.wl (ws.map .int) o)) (w2:=some (.lst []))) fun s w r=>?_;refine exe3 (A6v (ws:=ws) (x2:=s) (x8:=w) (x9:=none) (x10:=none) (x11:=none) (w0:=some (.wl (ws.map .int) o)) (p:=p0 ws) (A37 ws)) fun t A z d=>?_;refine exe3 (A0a (a:=1) (b:=2) (cell:=Da ws 4) (Z0z:=[some (.wl (ws.map .int) o),some (.lst (Ao (p0 ws))),some (.lst (Ap (p0 ws)))]) (p:=p0 ws) rfl rfl (Awu ws) (A36 ws)) fun L S f F=>?_;obtain⟨J,s1,i⟩:=F;refine exe3 (An8 (a:=1) (b:=2) (cell:=Da ws 4) (Z0z:=[some (.wl (ws.map .int) o),some (.lst (Ao (p0 ws))),some (.lst (Ap (p0 ws)))]) (p:=p0 ws) rfl rfl (Awu ws) (A36 ws)) fun m g u h=>?_;obtain⟨H,y,C⟩:=h;have E:=Y1 s1 (Awu ws).b;obtain⟨Q,U⟩:=Anz (Apr (Da ws 4) E (Acz s1)) ((Bac s1 i y C).map (Ij (Da ws 4)));refine n ?_;rw[<-Q] at H;have c:∀x∈L6 (L.map (Ij (Da ws 4))),∃l∈L,x=Ij (Da ws 4) l:=fun x R=>by
  refine Aa fun G=>?_;obtain⟨l,N,e⟩:=Bj.mp (U.mem_iff.mp R);exact G ⟨l,N,e.symm⟩
 have W:∀x∈L6 (L.map (Ij (Da ws 4))),okF 8 x=true:=fun x R=>by
  obtain⟨l,N,rfl⟩:=c x R;exact Arp _ (E l N)
 have K:okF 8 (.list (L6 (L.map (Ij (Da ws 4)))))=true:=Bd.mpr fun x R=>by
  obtain⟨l,N,rfl⟩:=c x R;exact Av8 _ (E l N)
 generalize O:L6 (L.map (Ij (Da ws 4)))=SS at *;have v:∀Z:Mu,niF (.p (.list [])) (.p (.list SS)) Z=some (.p (.bool true),Z):=fun Z=>A1n W fun x R=>by
  obtain⟨l,N,rfl⟩:=c x R;exact exi2 _ _ rfl
 have k:lw7 (lwG ws s t A z none) [some (.wl (ws.map .int) o),some (.lst (Ao (p0 ws))),some (.lst (Ap (p0 ws)))]=some (.next,lwG ws s t A z (some (.p (.list SS))),[some (.wl (ws.map .int) o),some (.lst (Ao (p0 ws))),some (.lst (Ap (p0 ws)))]):=by
  unfold lw7 lwG lwF;simp only[Cp,Ak,Bk,bE,vE,kE,Cm,fcF,Bc,qe,qf,qc,qd,qg,qh,D,J]
 have B:lw8 (lwG ws s t A z (some (.p (.list SS)))) [some (.wl (ws.map .int) o),some (.lst (Ao (p0 ws))),some (.lst (Ap (p0 ws)))]=some (.ret (.p (.bool true)),lwG ws s t A z (some (.p (.list SS))),[some (.wl (ws.map .int) o),some (.lst (Ao (p0 ws))),some (.lst (Ap (p0 ws)))]):=by
  unfold lw8 lwG lwF;simp only[O6,Z0,bE,Cm,fcF,Ak,Bk,Mr,Kf,Kg,kE,vE,qe,qf,qj,Cb,if_true,qc,v,Ml,D,H,qd,A3y K]
 have I:lwB (L1 12 [.mu 0]) [some (.wl (ws.map .int) o)]=some (.ret (.p (.bool true)),lwG ws s t A z (some (.p (.list SS))),[some (.wl (ws.map .int) o),some (.lst (Ao (p0 ws))),some (.lst (Ap (p0 ws)))]):=by
  have M:L1 12 [.mu 0]=some (.mu 0)::none::[none,none,none,none,none,none,none,none,none,none]:=rfl;unfold lwB;rw[M,A1g (o:=o) rfl N,Bw A6s,Bw (A6t rfl)];have q:lw5 (lwF ws [none,some (.p (.int (P6 (Da ws 4):Nat))),some (.p (.int (T4 (Da ws 4):Nat))),some (.p (.int (Xb (Da ws 4):Nat))),some (.mu 1),some (.mu 2),none,none,none,none]) ([some (.wl (ws.map .int) o)]++[some (.lst [.int 0]),some (.lst [])])=_:=r;rw[Bw q,Bw d,Bw k];simp only[B5,B,qc]
 rw[Aah (np:=1) rfl I];rfl
theorem A6g:PySem.Challenge.rw_wv0018_02.Holds:=A1a Av9
end
end Mine
theorem PySem.Challenge.cw_wv0018_02_holds : PySem.Challenge.rw_wv0018_02.Holds :=
  Mine.A6g
