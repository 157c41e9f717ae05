import PyProof.Rows.All
import Wide.All
import OpenK.AllK
import Wide.FinOn
import PyProof.ExcBaseAll.Exception
import KE.KBytesWalk
import PyProof.Draws
import KE.KLam
import KE.KNest
import KE.KToBytes
import KE.BytesMulAny
import OpenK.XSeg
import PyProof.GenObj
import PyProof.GenQ
import PyProof.NeData
import PyProof.Rows.SeqMore
import PyProof.Rows.ZipGen
import PyProof.TupleOps
import Wide.WTab
import Lean
import PySem.Challenge.RW_jj0022_01
open PySem PySem.W PySem.Calls PyProof.Rows
set_option Elab.async false
set_option maxRecDepth 100000
set_option linter.all false
set_option genSizeOf false
set_option genInjectivity false
set_option genCtorIdx false
set_option compiler.extract_closed false
set_option bootstrap.genMatcherCode false
set_option maxHeartbeats 8000000
set_option tactic.hygienic false
namespace Mine.Internal
open _root_.Nat renaming sub_add_cancel → yn, blt_eq → yL, le_refl → yM, add_le_add_right → yU, le_of_lt → yV, le_trans → yX, le_of_not_lt → Wg, lt_or_gt_of_ne → Wh, lt_of_lt_of_le → Wi, le_of_ble_eq_true → Wl, min_eq_left → Wz, lt_of_not_le → WC, zero_le → WI, lt_of_le_of_lt → WJ, lt_irrefl → WL, add_lt_add_right → WN, ble → WQ, lt_or_ge → W5, lt_trans → Bx, blt → BA, not_lt → BK, ne_of_lt → BP, min_eq_right → B5, le_antisymm → B9, le_of_lt_succ → Dh, lt_succ_of_le → Di, not_lt_zero → DJ, min_le_right → Fc, sub_eq_zero_of_le → Fh, ne_of_gt → Fn, min_le_left → Ft, rec → Fz, le_zero → FJ, pos_of_ne_zero → FW, add_assoc → F1, le_of_eq → Hd, lt_succ_self → Hp, sub_self → Hq, add_sub_cancel_left → Hu, ble_eq → HN, not_succ_le_zero → HQ, zero_add → H7
open _root_.PySem renaming wpAny_bind → yo, Value → yr, Addr → yu, wpAny_pure → yB, Shared → yF, wpAny_mono → yK, wpAny → yP, Around → y9, model → Wf, sizeLine_eq → Wp, wpAny_holding → Wr, NameKind → WD, wpAny_specialOf → WH, cStatics → WV, Heap → W0, recursionLimit → W1, starEach → W4, mainGlobals → W7, keywordEach → W8, codeAny → W9, assignEach → Ba, builtinLookup_eq_fast → Bb, GenState → Bc, sizeLine → Be, wpAny_standAt → Bh, assign → Bl, interactive → Bm, wpAny_field → Bn, clipAt → Bp, comprehension → Br, newEnv → Bu, wpAny_newFunctionEnv → By, letOwnedTupleGo → Bz, wpAny_newObj_type → BB, noteFrame → BE, excClassObj → BM, ExcBaseFacts → BQ, typeLookup_type → BV, theTreesLotGoes → BW, wpAny_updateSeq → BX, backToKw → B2, codeAny_mono → B3, firstIterPos → B6, builtinsNs → Db, backTo → Dc, execs → Dd, slot_list_getitem → Dj, wpAny_loadPart_at → Dk, getitemInPython_of_ne → Dp, wpAny_call → Dv, isInstance → Dw, wpAny_pyIter_gen → Dx, wpAny_point → DA, wpAny_of_eq → DC, wpAny_operating → DG, newFields → DM, callWith → DN, pyNext → DP, wpAny_typeOf → DQ, wpAny_comprehension_free → DS, Program → DU, World → DV, callMarked → DW, cLine → DY, wpAny_seqItems → DZ, codeAny_compStart_list → D4, evalEach → D9, FuncData → Fa, bindArgs → Fb, wpAny_call_entry → Fd, newList → Ff, updateSeq → Fg, typeLookup → Fp, codeAny_builtin → Fs, letTemporaryGo → FA, Operator → FC, methodCallForm → FD, leaving → FE, wpAny_loadPart → FG, valueAt → FH, isSubtype_type → FI, raiseStmt → FK, isTrue → FL, setFlight → FM, swapsWith → FN, wpAny_pyIter_range → FP, codeAmong → FS, wpAny_newList → FY, assignInOrder → FZ, slot_dict_getitem → F3, strKind_is → F6, call_meets → F7, OsState → F9, getItem → Ha, callEnv → Hb, pyIter → Hg, wpAny_getItem_of → Hl, typeOf → Hm, wpAny_getItem_list_slice → Hn, cellsFrom → Hw, wpAny_throw → HG, wpAny_letGo → HH, wpAny_setField → HJ, wpAny_load → HM, pushGuards → HP
open _root_.List renaming length_map → yq, getElem?_eq_getElem → yw, mem_append_right → yx, mem_cons → yy, mem_append_left → yA, mem_of_getElem? → yC, mem_map → yD, map_append → yE, append_assoc → yG, map_cons → yH, not_mem_nil → yI, size_toArray → yJ, mem_singleton → yN, getElem?_map → yO, mem_append → yR, length_append → yS, mem_map_of_mem → yT, all_eq_true → yY, flatten_cons → Wa, getElem?_eq_some_iff → Wb, nodup_cons → Wd, getD_eq_getElem?_getD → We, nodup_append → Wm, getElem?_append_right → Wn, replicate → Wo, append_nil → Wq, length_drop → Ws, getElem?_append_left → Ww, length_take → Wx, flatten_append → Wy, perm_append_comm → WA, length_cons → WE, contains_iff_mem → WK, getElem?_set_ne → WO, take_of_length_le → WP, mem_flatten → WT, length_pos_iff → WU, nodup_nil → WW, getElem?_drop → WZ, getElem?_eq_none → W2, getElem?_cons_succ → W3, perm_middle → Bd, lookup_cons → Bf, length_set → Bj, take_length → Bs, flatten_nil → Bt, length_range → BC, replicate_succ → BG, rec → BH, getElem_mem → BJ, range → BN, zip_cons_cons → BO, mem_filter → BY, length_replicate → BZ, cons_append → B4, contains_cons → De, getElem?_set_self → Df, mem_range'_1 → Dl, lookup_cons_self → Do, map_nil → Dq, toArray → Dr, mem_iff_getElem? → Ds, mem_of_mem_take → Dy, mem_of_mem_drop → Dz, append_toArray → DF, nil_append → DI, map_map → DO, push_toArray → D0, ext_getElem? → D1, foldl_append → D3, getElem_cons_drop → D6, drop_of_length_le → D7, any_cons → D8, map → Fe, length_filter_le → Fi, take_append_drop → Fj, find?_cons → Fo, eq_nil_iff_forall_not_mem → Fw, drop_append_of_le_length → Fy, getElem?_take → FQ, filter_append → FU, length_range' → FV, any_eq_false → F4, pairwise_iff_getElem → F5, map_reverse → Hh, mem_reverse → Hi, all_eq_not_any_not → Hr, foldl_cons → Hy, forIn_cons → Hz, range_succ → HA, length → HB, range' → HI, take_left → HK, drop_drop → HL, range'_1_concat → HS, map_drop → HY, map_take → HZ, filter_sublist → H3
open _root_.Int renaming natCast_nonneg → yt, toNat_of_nonneg → yz, toNat_natCast → yW, emod_lt_of_pos → yZ, emod_nonneg → Wj, mul_ediv_add_emod → WG, not_le → WM, max_eq_right → WS, natCast_pos → WX, ofNat_lt → Bg, le_refl → Bk, not_lt → Bw, lt_or_gt_of_ne → BS, min_eq_left → BU, zero_add → B1, ofNat → Dt, add_zero → DL, ofNat_le → Fk, le_max_left → Fu, max_eq_left → Fv, fdiv_eq_ediv_of_nonneg → F0, le_min → F8, min_eq_right → Ho, eq_ofNat_of_zero_le → Ht, neg_one_mul → Hv, natAbs_of_nonneg → HO, add_assoc → HT, mul_zero → H4, ne_of_gt → H5, le_of_lt → H6
open _root_.Bool renaming noConfusion → yQ, and_eq_true_iff → Wu, false_ne_true → WY, or_eq_true_iff → BF, and_eq_true → BI, false_and → DX, false_eq_true → FT, not_eq_true' → F2, or_true → Hf, or_eq_true → Hx, true_and → HV, or_false → HW
open _root_.Option renaming some → Wc, map_eq_some_iff → WB, elim → DB, some_ne_none → DE, isSome_iff_exists → DR, getD_some → He, bind_eq_some_iff → Hs
open _root_.PySem.W renaming typeIs_bytes → W6, listOf → Bi, Looks → Bv, hideAll_get → BL, Frag → B0, dictOf → Da, hideAll → Dn, emptyDict → Du, tabObj → DT, hideAll_none → Fm, findIn → FO, ghostOf → Hc, any_some → Hj, putName_dict → Hk, plainGet_of → HC, looks_clsIn → HD, looks_subIn → HF
open _root_.Array renaming getElem?_eq_some_iff → Bq, getElem?_push_size → B7, getElem?_setIfInBounds_ne → B8, getElem?_eq_getElem → DH, getElem?_setIfInBounds_self → D5, toArray_toList → Fq, getElem?_eq_none → HE, toList_append → H2
open _root_.PyProof.Rows renaming markedEach_of_false → DD
open _root_.PySem.Str renaming ofString → qS
theorem qc {G:Prop} (q:P/\Q) (k:P->Q->G):G:=by
 obtain ⟨a,b⟩:=q
 exact k a b
theorem qZ {G:Prop} (q:P/\Q/\R) (k:P->Q->R->G):G:=by
 obtain ⟨a,b,c⟩:=q
 exact k a b c
theorem qA {u':Type} {P:u'->Prop} {G:Prop} (q: ∃u,P u) (k: ∀u,P u->G):G:=by
 obtain ⟨u,a⟩:=q
 exact k u a
theorem qf {u':Type} {P Q:u'->Prop} {G:Prop} (q: ∃u,P u/\Q u) (k: ∀u,P u->Q u->G):G:=by
 obtain ⟨u,a,b⟩:=q
 exact k u a b
theorem zk {u':Type} {P Q R:u'->Prop} {G:Prop} (q: ∃u,P u/\Q u/\R u) (k: ∀u,P u->Q u->R u->G):G:=by
 obtain ⟨u,a,b,c⟩:=q
 exact k u a b c
theorem Qn {u':Type} {P Q R S:u'->Prop} {G:Prop} (q: ∃u,P u/\Q u/\R u/\S u) (k: ∀u,P u->Q u->R u->S u->G):G:=by
 obtain ⟨u,a,b,c,d⟩:=q
 exact k u a b c d
theorem vL {u':Type} {P Q R S T:u'->Prop} {G:Prop} (q: ∃u,P u/\Q u/\R u/\S u/\T u) (k: ∀u,P u->Q u->R u->S u->T u->G):G:=by
 obtain ⟨u,a,b,c,d,e⟩:=q
 exact k u a b c d e
theorem e1a5 {u':Type} {P Q R S T U:u'->Prop} {G:Prop} (q: ∃u,P u/\Q u/\R u/\S u/\T u/\U u) (k: ∀u,P u->Q u->R u->S u->T u->U u->G):G:=by
 obtain ⟨u,a,b,c,d,e,f⟩:=q
 exact k u a b c d e f
theorem XM {u' v':Type} {P:u'->v'->Prop} {G:Prop} (q: ∃u v,P u v) (k: ∀u v,P u v->G):G:=by
 obtain ⟨u,v,a⟩:=q
 exact k u v a
theorem qB {u' v':Type} {P Q:u'->v'->Prop} {G:Prop} (q: ∃u v,P u v/\Q u v) (k: ∀u v,P u v->Q u v->G):G:=by
 obtain ⟨u,v,a,b⟩:=q
 exact k u v a b
theorem qk {u' v':Type} {P Q R:u'->v'->Prop} {G:Prop} (q: ∃u v,P u v/\Q u v/\R u v) (k: ∀u v,P u v->Q u v->R u v->G):G:=by
 obtain ⟨u,v,a,b,c⟩:=q
 exact k u v a b c
theorem xW {u' v':Type} {P Q R S:u'->v'->Prop} {G:Prop} (q: ∃u v,P u v/\Q u v/\R u v/\S u v) (k: ∀u v,P u v->Q u v->R u v->S u v->G):G:=by
 obtain ⟨u,v,a,b,c,d⟩:=q
 exact k u v a b c d
theorem ZF {u' v':Type} {P Q R S T:u'->v'->Prop} {G:Prop} (q: ∃u v,P u v/\Q u v/\R u v/\S u v/\T u v) (k: ∀u v,P u v->Q u v->R u v->S u v->T u v->G):G:=by
 obtain ⟨u,v,a,b,c,d,e⟩:=q
 exact k u v a b c d e
theorem Jn {u' v':Type} {P Q R S T U:u'->v'->Prop} {G:Prop} (q: ∃u v,P u v/\Q u v/\R u v/\S u v/\T u v/\U u v) (k: ∀u v,P u v->Q u v->R u v->S u v->T u v->U u v->G):G:=by
 obtain ⟨u,v,a,b,c,d,e,f⟩:=q
 exact k u v a b c d e f
theorem zc {u' v' w':Type} {P:u'->v'->w'->Prop} {G:Prop} (q: ∃u v w,P u v w) (k: ∀u v w,P u v w->G):G:=by
 obtain ⟨u,v,w,a⟩:=q
 exact k u v w a
theorem Xs {u' v' w':Type} {P Q:u'->v'->w'->Prop} {G:Prop} (q: ∃u v w,P u v w/\Q u v w) (k: ∀u v w,P u v w->Q u v w->G):G:=by
 obtain ⟨u,v,w,a,b⟩:=q
 exact k u v w a b
theorem kT {u' v' w':Type} {P Q R:u'->v'->w'->Prop} {G:Prop} (q: ∃u v w,P u v w/\Q u v w/\R u v w) (k: ∀u v w,P u v w->Q u v w->R u v w->G):G:=by
 obtain ⟨u,v,w,a,b,c⟩:=q
 exact k u v w a b c
theorem xF {u' v' w':Type} {P Q R S:u'->v'->w'->Prop} {G:Prop} (q: ∃u v w,P u v w/\Q u v w/\R u v w/\S u v w) (k: ∀u v w,P u v w->Q u v w->R u v w->S u v w->G):G:=by
 obtain ⟨u,v,w,a,b,c,d⟩:=q
 exact k u v w a b c d
theorem ja {u' v' w':Type} {P Q R S T:u'->v'->w'->Prop} {G:Prop} (q: ∃u v w,P u v w/\Q u v w/\R u v w/\S u v w/\T u v w) (k: ∀u v w,P u v w->Q u v w->R u v w->S u v w->T u v w->G):G:=by
 obtain ⟨u,v,w,a,b,c,d,e⟩:=q
 exact k u v w a b c d e
theorem xB {u' v' w':Type} {P Q R S T U:u'->v'->w'->Prop} {G:Prop} (q: ∃u v w,P u v w/\Q u v w/\R u v w/\S u v w/\T u v w/\U u v w) (k: ∀u v w,P u v w->Q u v w->R u v w->S u v w->T u v w->U u v w->G):G:=by
 obtain ⟨u,v,w,a,b,c,d,e,f⟩:=q
 exact k u v w a b c d e f
theorem jk {u' v' w':Type} {P Q R S T U V:u'->v'->w'->Prop} {G:Prop} (q: ∃u v w,P u v w/\Q u v w/\R u v w/\S u v w/\T u v w/\U u v w/\V u v w) (k: ∀u v w,P u v w->Q u v w->R u v w->S u v w->T u v w->U u v w->V u v w->G):G:=by
 obtain ⟨u,v,w,a,b,c,d,e,f,g⟩:=q
 exact k u v w a b c d e f g
theorem uE {u' v' w' x':Type} {P:u'->v'->w'->x'->Prop} {G:Prop} (q: ∃u v w x,P u v w x) (k: ∀u v w x,P u v w x->G):G:=by
 obtain ⟨u,v,w,x,a⟩:=q
 exact k u v w x a
theorem wh {u' v' w' x':Type} {P Q:u'->v'->w'->x'->Prop} {G:Prop} (q: ∃u v w x,P u v w x/\Q u v w x) (k: ∀u v w x,P u v w x->Q u v w x->G):G:=by
 obtain ⟨u,v,w,x,a,b⟩:=q
 exact k u v w x a b
theorem vD {u' v' w' x':Type} {P Q R S:u'->v'->w'->x'->Prop} {G:Prop} (q: ∃u v w x,P u v w x/\Q u v w x/\R u v w x/\S u v w x) (k: ∀u v w x,P u v w x->Q u v w x->R u v w x->S u v w x->G):G:=by
 obtain ⟨u,v,w,x,a,b,c,d⟩:=q
 exact k u v w x a b c d
theorem qa (a:P) (b:Q):P/\Q:=⟨a,b⟩
theorem qy (a:P) (b:Q) (c:R):P/\Q/\R:=⟨a,b,c⟩
theorem zQ (a:P) (b:Q) (c:R) (d:S):P/\Q/\R/\S:=⟨a,b,c,d⟩
theorem qx {u':Type} {P:u'->Prop} (u:u') (a:P u): ∃u,P u:=⟨u,a⟩
theorem qj {u':Type} {P Q:u'->Prop} (u:u') (a:P u) (b:Q u): ∃u,P u/\Q u:=⟨u,a,b⟩
theorem qK {u':Type} {P Q R:u'->Prop} (u:u') (a:P u) (b:Q u) (c:R u): ∃u,P u/\Q u/\R u:=⟨u,a,b,c⟩
theorem X0 {u':Type} {P Q R S:u'->Prop} (u:u') (a:P u) (b:Q u) (c:R u) (d:S u): ∃u,P u/\Q u/\R u/\S u:=⟨u,a,b,c,d⟩
theorem uY {u':Type} {P Q R S T:u'->Prop} (u:u') (a:P u) (b:Q u) (c:R u) (d:S u) (e:T u): ∃u,P u/\Q u/\R u/\S u/\T u:=⟨u,a,b,c,d,e⟩
theorem vm {u':Type} {P Q R S T U:u'->Prop} (u:u') (a:P u) (b:Q u) (c:R u) (d:S u) (e:T u) (f:U u): ∃u,P u/\Q u/\R u/\S u/\T u/\U u:=⟨u,a,b,c,d,e,f⟩
theorem jH {u' v':Type} {P:u'->v'->Prop} (u:u') (v:v') (a:P u v): ∃u v,P u v:=⟨u,v,a⟩
theorem qU {u' v':Type} {P Q:u'->v'->Prop} (u:u') (v:v') (a:P u v) (b:Q u v): ∃u v,P u v/\Q u v:=⟨u,v,a,b⟩
theorem qe {u' v':Type} {P Q R:u'->v'->Prop} (u:u') (v:v') (a:P u v) (b:Q u v) (c:R u v): ∃u v,P u v/\Q u v/\R u v:=⟨u,v,a,b,c⟩
theorem Qi {u' v':Type} {P Q R S:u'->v'->Prop} (u:u') (v:v') (a:P u v) (b:Q u v) (c:R u v) (d:S u v): ∃u v,P u v/\Q u v/\R u v/\S u v:=⟨u,v,a,b,c,d⟩
theorem ZW {u' v':Type} {P Q R S T:u'->v'->Prop} (u:u') (v:v') (a:P u v) (b:Q u v) (c:R u v) (d:S u v) (e:T u v): ∃u v,P u v/\Q u v/\R u v/\S u v/\T u v:=⟨u,v,a,b,c,d,e⟩
theorem Xg {u' v':Type} {P Q R S T U:u'->v'->Prop} (u:u') (v:v') (a:P u v) (b:Q u v) (c:R u v) (d:S u v) (e:T u v) (f:U u v): ∃u v,P u v/\Q u v/\R u v/\S u v/\T u v/\U u v:=⟨u,v,a,b,c,d,e,f⟩
theorem i2a6 {u' v':Type} {P Q R S T U V:u'->v'->Prop} (u:u') (v:v') (a:P u v) (b:Q u v) (c:R u v) (d:S u v) (e:T u v) (f:U u v) (g:V u v): ∃u v,P u v/\Q u v/\R u v/\S u v/\T u v/\U u v/\V u v:=⟨u,v,a,b,c,d,e,f,g⟩
theorem qW {u' v' w':Type} {P:u'->v'->w'->Prop} (u:u') (v:v') (w:w') (a:P u v w): ∃u v w,P u v w:=⟨u,v,w,a⟩
theorem Yj {u' v' w':Type} {P Q:u'->v'->w'->Prop} (u:u') (v:v') (w:w') (a:P u v w) (b:Q u v w): ∃u v w,P u v w/\Q u v w:=⟨u,v,w,a,b⟩
theorem zX {u' v' w':Type} {P Q R:u'->v'->w'->Prop} (u:u') (v:v') (w:w') (a:P u v w) (b:Q u v w) (c:R u v w): ∃u v w,P u v w/\Q u v w/\R u v w:=⟨u,v,w,a,b,c⟩
theorem xi {u' v' w':Type} {P Q R S:u'->v'->w'->Prop} (u:u') (v:v') (w:w') (a:P u v w) (b:Q u v w) (c:R u v w) (d:S u v w): ∃u v w,P u v w/\Q u v w/\R u v w/\S u v w:=⟨u,v,w,a,b,c,d⟩
theorem ji {u' v' w':Type} {P Q R S T:u'->v'->w'->Prop} (u:u') (v:v') (w:w') (a:P u v w) (b:Q u v w) (c:R u v w) (d:S u v w) (e:T u v w): ∃u v w,P u v w/\Q u v w/\R u v w/\S u v w/\T u v w:=⟨u,v,w,a,b,c,d,e⟩
theorem xI {u' v' w':Type} {P Q R S T U:u'->v'->w'->Prop} (u:u') (v:v') (w:w') (a:P u v w) (b:Q u v w) (c:R u v w) (d:S u v w) (e:T u v w) (f:U u v w): ∃u v w,P u v w/\Q u v w/\R u v w/\S u v w/\T u v w/\U u v w:=⟨u,v,w,a,b,c,d,e,f⟩
theorem wj {u' v' w':Type} {P Q R S T U V:u'->v'->w'->Prop} (u:u') (v:v') (w:w') (a:P u v w) (b:Q u v w) (c:R u v w) (d:S u v w) (e:T u v w) (f:U u v w) (g:V u v w): ∃u v w,P u v w/\Q u v w/\R u v w/\S u v w/\T u v w/\U u v w/\V u v w:=⟨u,v,w,a,b,c,d,e,f,g⟩
theorem XP {u' v' w' x':Type} {P Q:u'->v'->w'->x'->Prop} (u:u') (v:v') (w:w') (x:x') (a:P u v w x) (b:Q u v w x): ∃u v w x,P u v w x/\Q u v w x:=⟨u,v,w,x,a,b⟩
theorem XZ {u' v' w' x':Type} {P Q R S:u'->v'->w'->x'->Prop} (u:u') (v:v') (w:w') (x:x') (a:P u v w x) (b:Q u v w x) (c:R u v w x) (d:S u v w x): ∃u v w x,P u v w x/\Q u v w x/\R u v w x/\S u v w x:=⟨u,v,w,x,a,b,c,d⟩
noncomputable section
inductive NE where
 |v (i:Nat)
 |k (n:Nat)
 |a (x y:NE)
 |m (n:Nat) (x:NE)
 |r (x:NE) (n:Nat)
inductive ZE where
 |v (i:Nat)
 |k (n:Int)
 |c (x:NE)
 |a (x y:ZE)
 |s (x y:ZE)
 |n (x:ZE)
 |m (n:Int) (x:ZE)
 |r (x:ZE) (n:Int)
inductive LCo where
 |nl (x y:NE)
 |nt (x y:NE)
 |ne (x y:NE)
 |zl (x y:ZE)
 |zt (x y:ZE)
 |ze (x y:ZE)
 |ff
noncomputable abbrev nth {α:Type} (d:α) (l:List α) (i:Nat):α:=BH (motive:=λ_=>Nat->α) (λ_=>d) (λa _ ih i=>Fz (motive:=λ_=>α) a (λj _=>ih j) i) l i
noncomputable abbrev NE.d (N:List Nat) (e:NE):Nat:=NE.rec (motive:=λ_=>Nat) (λi=>nth 0 N i) (λn=>n) (λ_ _ x y=>x+y) (λn _ x=>n*x) (λ_ n x=>x*n) e
noncomputable abbrev ZE.d (N:List Nat) (Z:List Int) (e:ZE):Int:=ZE.rec (motive:=λ_=>Int) (λi=>nth 0 Z i) (λn=>n) (λx=>((x.d N:Nat):Int)) (λ_ _ x y=>x+y) (λ_ _ x y=>x - y) (λ_ x=> -x) (λn _ x=>n*x) (λ_ n x=>x*n) e
abbrev LCo.d (N:List Nat) (Z:List Int) (c:LCo):Prop:=LCo.rec (motive:=λ_=>Prop) (λx y=>x.d N<=y.d N) (λx y=>x.d N<y.d N) (λx y=>x.d N=y.d N)
 (λx y=>x.d N Z<=y.d N Z) (λx y=>x.d N Z<y.d N Z) (λx y=>x.d N Z=y.d N Z) False c
abbrev zW (N:List Nat) (Z:List Int) (P:Prop) (l:List LCo):Prop:=BH (motive:=λ_=>Prop) P (λc _ ih=>c.d N Z->ih) l
structure LF where
 c:Int
 n:List Int
 z:List Int
noncomputable def dot (l V:List Int):Int:=BH (motive:=λ_=>List Int->Int) (λ_=>0) (λa _ ih V=>BH (motive:=λ_=>Int) 0 (λb s _=>a*b+ih s) V) l V
noncomputable def Up (l m:List Int):List Int:=BH (motive:=λ_=>List Int->List Int) (λm=>m) (λa r ih m=>BH (motive:=λ_=>List Int) (a::r) (λb s _=>(a+b)::ih s) m) l m
noncomputable def uni (i:Nat):List Int:=Fz (motive:=λ_=>List Int) [1] (λ_ l=>0::l) i
noncomputable def Uq (k:Int) (l:List Int):List Int:=l.map (k* ·)
theorem Xe (l:List Int): ∀(m V:List Int),dot (Up l m) V=dot l V+dot m V:=by
 induction l with
 |nil=>intro m V;exact (B1 _).symm
 |cons a r ih=>
  intro m V
  cases m with
  |nil=>exact (DL _).symm
  |cons b s=>
   cases V with
   |nil=>rfl
   |cons v V=>
    show (a+b)*v+dot (Up r s) V=(a*v+dot r V)+(b*v+dot s V)
    rw [ih,Int.add_mul,HT,HT,Int.add_left_comm (b*v)]
theorem Xc (k:Int) (l:List Int): ∀V:List Int,dot (Uq k l) V=k*dot l V:=by
 induction l with
 |nil=>intro V;exact (H4 _).symm
 |cons a r ih=>
  intro V
  cases V with
  |nil=>exact (H4 _).symm
  |cons v V=>
   show (k*a)*v+dot (Uq k r) V=k*(a*v+dot r V)
   rw [ih,Int.mul_add,Int.mul_assoc]
theorem Jw (i:Nat): ∀V:List Int,dot (uni i) V=nth 0 V i:=by
 induction i with
 |zero=>intro V;cases V with|nil=>rfl|cons v V=>show 1*v+0=v;rw [Int.one_mul,DL]
 |succ i ih=>intro V;cases V with|nil=>rfl|cons v V=>show 0*v+dot (uni i) V=_;rw [Int.zero_mul,B1];exact ih V
theorem Y7 (N:List Nat): ∀i:Nat,nth 0 (N.map Dt) i=((nth 0 N i:Nat):Int):=by
 induction N with
 |nil=>intro i;rfl
 |cons a r ih=>intro i;cases i with|zero=>rfl|succ i=>exact ih i
noncomputable def LF.ev (N:List Nat) (Z:List Int) (f:LF):Int:=f.c+(dot f.n (N.map Dt)+dot f.z Z)
noncomputable def LF.add (f g:LF):LF:=⟨f.c+g.c,Up f.n g.n,Up f.z g.z⟩
noncomputable def LF.mul (k:Int) (f:LF):LF:=⟨k*f.c,Uq k f.n,Uq k f.z⟩
theorem LF.ev_add (N:List Nat) (Z:List Int) (f g:LF):(f.add g).ev N Z=f.ev N Z+g.ev N Z:=by
 show f.c+g.c+(dot (Up f.n g.n) _+dot (Up f.z g.z) _)=f.c+(_+_)+(g.c+(_+_))
 rw [Xe,Xe];simp only [HT,Int.add_left_comm,Int.add_comm]
theorem LF.ev_mul (N:List Nat) (Z:List Int) (k:Int) (f:LF):(LF.mul k f).ev N Z=k*f.ev N Z:=by
 show k*f.c+(dot (Uq k f.n) _+dot (Uq k f.z) _)=k*(f.c+(_+_))
 rw [Xc,Xc,Int.mul_add,Int.mul_add]
noncomputable def NE.lf (e:NE):LF:=NE.rec (motive:=λ_=>LF) (λi=>⟨0,uni i,[]⟩) (λn=>⟨Dt n,[],[]⟩) (λ_ _ x y=>x.add y) (λn _ x=>x.mul (Dt n)) (λ_ n x=>x.mul (Dt n)) e
theorem NE.lf_ev (N:List Nat) (Z:List Int) (e:NE):e.lf.ev N Z=((e.d N:Nat):Int):=by
 induction e with
 |v i=>show 0+(dot (uni i) _+0)=_;rw [B1,DL,Jw];exact Y7 N i
 |k n=>show Dt n+(0+0)=_;rw [DL];rfl
 |a x y ix iy=>show (x.lf.add y.lf).ev N Z=_;rw [LF.ev_add,ix,iy];rfl
 |m n x ix=>show (LF.mul (Dt n) x.lf).ev N Z=_;rw [LF.ev_mul,ix];rfl
 |r x n ix=>show (LF.mul (Dt n) x.lf).ev N Z=_;rw [LF.ev_mul,ix,Int.mul_comm];rfl
noncomputable def ZE.lf (e:ZE):LF:=ZE.rec (motive:=λ_=>LF) (λi=>⟨0,[],uni i⟩) (λn=>⟨n,[],[]⟩) (λx=>x.lf) (λ_ _ x y=>x.add y) (λ_ _ x y=>x.add (y.mul (-1))) (λ_ x=>x.mul (-1)) (λn _ x=>x.mul n) (λ_ n x=>x.mul n) e
theorem ZE.lf_ev (N:List Nat) (Z:List Int) (e:ZE):e.lf.ev N Z=e.d N Z:=by
 induction e with
 |v i=>show 0+(0+dot (uni i) _)=_;rw [B1,B1,Jw]
 |k n=>show n+(0+0)=_;rw [DL,DL]
 |c x=>exact NE.lf_ev N Z x
 |a x y ix iy=>show (x.lf.add y.lf).ev N Z=_;rw [LF.ev_add,ix,iy]
 |s x y ix iy=>show (x.lf.add (y.lf.mul (-1))).ev N Z=_;rw [LF.ev_add,LF.ev_mul,ix,iy,Hv,<- Int.sub_eq_add_neg]
 |n x ix=>show (LF.mul (-1) x.lf).ev N Z=_;rw [LF.ev_mul,ix,Hv]
 |m n x ix=>show (LF.mul n x.lf).ev N Z=_;rw [LF.ev_mul,ix]
 |r x n ix=>show (LF.mul n x.lf).ev N Z=_;rw [LF.ev_mul,ix,Int.mul_comm]
noncomputable def LF.sub (f g:LF):LF:=f.add (g.mul (-1))
theorem LF.ev_sub (N:List Nat) (Z:List Int) (f g:LF):(f.sub g).ev N Z=f.ev N Z - g.ev N Z:=by
 show (f.add (g.mul (-1))).ev N Z=_;rw [LF.ev_add,LF.ev_mul,Hv,<- Int.sub_eq_add_neg]
noncomputable def LF.inc (f:LF):LF:=⟨f.c+1,f.n,f.z⟩
theorem LF.ev_inc (N:List Nat) (Z:List Int) (f:LF):f.inc.ev N Z=f.ev N Z+1:=by
 show f.c+1+(_+_)=f.c+(_+_)+1;exact Int.add_right_comm ..
theorem uH {a b:Int}:a<=b↔a - b<=0:=⟨λh=>Int.sub_nonpos_of_le h,λh=>Int.le_of_sub_nonpos h⟩
noncomputable def LCo.vec (c:LCo):Bool × LF:=LCo.rec (motive:=λ_=>Bool × LF)
 (λx y=>(false,x.lf.sub y.lf)) (λx y=>(false,(x.lf.inc).sub y.lf)) (λx y=>(true,x.lf.sub y.lf))
 (λx y=>(false,x.lf.sub y.lf)) (λx y=>(false,(x.lf.inc).sub y.lf)) (λx y=>(true,x.lf.sub y.lf)) (false,⟨1,[],[]⟩) c
theorem LCo.vec_ok (N:List Nat) (Z:List Int) (c:LCo) (h:c.d N Z):(c.vec.1=true->c.vec.2.ev N Z=0)/\c.vec.2.ev N Z<=0:=by
 have zz: ∀{f:LF} {a b:Int},f.ev N Z=a - b->a=b->(true=true->f.ev N Z=0)/\f.ev N Z<=0:=λe h=>by
  have z:=e.trans (by rw [h,Int.sub_self]);exact qa (λoo=>z) (Int.le_of_eq z)
 have zl: ∀{f:LF} {a b:Int},f.ev N Z=a - b->a<=b->(false=true->f.ev N Z=0)/\f.ev N Z<=0:=λe h=>by
  rw [e];exact qa (λx=>yQ x) (uH.mp h)
 have ns: ∀x y:NE,(x.lf.sub y.lf).ev N Z=((x.d N:Nat):Int) - ((y.d N:Nat):Int):=λx y=>by rw [LF.ev_sub,NE.lf_ev,NE.lf_ev]
 have nt: ∀x y:NE,(x.lf.inc.sub y.lf).ev N Z=((x.d N+1:Nat):Int) - ((y.d N:Nat):Int):=λx y=>by rw [LF.ev_sub,LF.ev_inc,NE.lf_ev,NE.lf_ev];rfl
 have ms: ∀x y:ZE,(x.lf.sub y.lf).ev N Z=x.d N Z - y.d N Z:=λx y=>by rw [LF.ev_sub,ZE.lf_ev,ZE.lf_ev]
 have mt: ∀x y:ZE,(x.lf.inc.sub y.lf).ev N Z=(x.d N Z+1) - y.d N Z:=λx y=>by rw [LF.ev_sub,LF.ev_inc,ZE.lf_ev,ZE.lf_ev]
 cases c with
 |nl x y=>exact zl (ns x y) (Fk.mpr h)
 |nt x y=>exact zl (nt x y) (Fk.mpr h)
 |ne x y=>exact zz (ns x y) (congrArg _ h)
 |zl x y=>exact zl (ms x y) h
 |zt x y=>exact zl (mt x y) h
 |ze x y=>exact zz (ms x y) h
 |ff=>exact h.elim
noncomputable def nn (k:Int):Bool:=Int.rec (motive:=λ_=>Bool) (λ_=>true) (λ_=>false) k
noncomputable def ps (k:Int):Bool:=Int.rec (motive:=λ_=>Bool) (λn=>Fz (motive:=λ_=>Bool) false (λ_ _=>true) n) (λ_=>false) k
noncomputable def nns (l:List Int):Bool:=BH (motive:=λ_=>Bool) true (λa _ ih=>nn a && ih) l
noncomputable def zns (l:List Int):Bool:=BH (motive:=λ_=>Bool) true (λa _ ih=>nn a && (nn (-a) && ih)) l
theorem JV (h:nn k=true):0<=k:=by cases k with|ofNat n=>exact yt n|negSucc n=>cases h
theorem yl (h:ps k=true):0<k:=by
 cases k with
 |ofNat n=>cases n with|zero=>cases h|succ n=>exact WX.mpr (Nat.succ_pos n)
 |negSucc n=>cases h
theorem uS (l:List Int):nns l=true->∀N:List Nat,0<=dot l (N.map Dt):=by
 induction l with
 |nil=>intro _ N;exact Bk _
 |cons a r ih=>
  intro h N
  cases N with
  |nil=>exact Bk _
  |cons v V=>exact Int.add_nonneg (Int.mul_nonneg (JV (Wu.mp h).1) (yt v)) (ih (Wu.mp h).2 V)
theorem ut (l:List Int):zns l=true->∀V:List Int,0<=dot l V:=by
 induction l with
 |nil=>intro _ V;exact Bk _
 |cons a r ih=>
  intro h V
  cases V with
  |nil=>exact Bk _
  |cons v V=>
   have h1:=JV (Wu.mp h).1
   have h2:=JV (Wu.mp (Wu.mp h).2).1
   have h3:=ih (Wu.mp (Wu.mp h).2).2 V
   have e:a=0:=Int.le_antisymm (Int.neg_nonneg.mp h2) h1
   subst e
   show 0<=0*v+dot r V
   rw [Int.zero_mul,B1]
   exact h3
noncomputable def tot (l:List LCo):List Int->LF:=BH (motive:=λ_=>List Int->LF) (λ_=>⟨0,[],[]⟩) (λc _ ih ks=>BH (motive:=λ_=>LF) ⟨0,[],[]⟩ (λk r _=>(c.vec.2.mul k).add (ih r)) ks) l
noncomputable def sgn9 (l:List LCo):List Int->Bool:=BH (motive:=λ_=>List Int->Bool) (λ_=>true) (λc _ ih ks=>BH (motive:=λ_=>Bool) true (λk r _=>(c.vec.1||nn k) && ih r) ks) l
noncomputable def chk (l:List LCo) (ks:List Int):Bool:=sgn9 l ks && (ps (tot l ks).c && (nns (tot l ks).n && zns (tot l ks).z))
def ZL (N:List Nat) (Z:List Int) (l:List LCo):Prop:=BH (motive:=λ_=>Prop) True (λc _ ih=>c.d N Z/\ih) l
theorem uD (N:List Nat) (Z:List Int) (l:List LCo): ∀ks,sgn9 l ks=true->ZL N Z l->(tot l ks).ev N Z<=0:=by
 induction l with
 |nil=>intro _ _ _;exact Bk _
 |cons c l ih=>
  intro ks h w
  cases ks with
  |nil=>exact Bk _
  |cons k r=>
   have hh:=Wu.mp h
   have v:=c.vec_ok N Z w.1
   show ((c.vec.2.mul k).add (tot l r)).ev N Z<=0
   rw [LF.ev_add,LF.ev_mul]
   refine Int.add_nonpos ?_ (ih r hh.2 w.2)
   refine Or.elim (BF.mp hh.1) (λe=>?_) λe=>?_
   ·rw [v.1 e,H4];exact Bk _
   ·exact Int.mul_nonpos_of_nonneg_of_nonpos (JV e) v.2
theorem YZ (h:chk l ks=true) (w:ZL N Z l):False:=by
 have h1:=Wu.mp h
 have h2:=Wu.mp h1.2
 have h3:=Wu.mp h2.2
 have a:=uD N Z l ks h1.1 w
 have b:=Int.add_nonneg (uS _ h3.1 N) (ut _ h3.2 Z)
 exact absurd a (WM.mpr (Int.lt_of_lt_of_le (yl h2.1) (Int.le_add_of_nonneg_right b)))
theorem vN (l:List LCo):(ZL N Z l->P)->zW N Z P l:=by
 induction l with
 |nil=>intro h;exact h trivial
 |cons c l ih=>intro h w;exact ih λv=>h (qa w v)
noncomputable def LCo.neg (c:LCo):LCo:=LCo.rec (motive:=λ_=>LCo) (λx y=> .nt y x) (λx y=> .nl y x) (λx y=> .nt x y) (λx y=> .zt y x) (λx y=> .zl y x) (λx y=> .zt x y) (.nl (.k 0) (.k 0)) c
noncomputable def LCo.neg' (c:LCo):LCo:=LCo.rec (motive:=λ_=>LCo) (λx y=> .nt y x) (λx y=> .nl y x) (λx y=> .nt y x) (λx y=> .zt y x) (λx y=> .zl y x) (λx y=> .zt y x) (.nl (.k 0) (.k 0)) c
theorem LCo.of_neg {c:LCo} (h:c.neg.d N Z->False) (h':c.neg'.d N Z->False):c.d N Z:=by
 cases c with
 |nl x y=>exact Wg h
 |nt x y=>exact WC h
 |ne x y=>exact B9 (Wg h') (Wg h)
 |zl x y=>exact Bw.mp h
 |zt x y=>exact WM.mp h
 |ze x y=>exact Int.le_antisymm (Bw.mp h') (Bw.mp h)
 |ff=>exact (h (yM 0))
noncomputable def zY (g:LCo) (l:List LCo) (k k':List Int):Bool:=chk (g.neg::l) k && chk (g.neg'::l) k'
theorem LA (N:List Nat) (Z:List Int) (l:List LCo) (g:LCo) (k k':List Int) (h:zY g l k k'=true):zW N Z (g.d N Z) l:=
 vN l λw=>LCo.of_neg (λn=>YZ (Wu.mp h).1 (qa n w)) λn=>YZ (Wu.mp h).2 (qa n w)
theorem LB (N:List Nat) (Z:List Int) (l:List LCo) (g:LCo) (k:List Int) (h:zY g l k k=true):zW N Z (g.d N Z) l:=LA N Z l g k k h
end
theorem lk0 {v a c:Nat} (h:v<a) (e:WQ (a) c=true):v<c:=Wi h (Wl e)
theorem ll0 {v a c:Nat} (h:v<=a) (e:WQ (a) c=true):v<=c:=yX h (Wl e)
theorem lm0 {v a c:Nat} (h:v<a) (e:WQ (a) (c+1)=true):v<=c:=Dh (lk0 h e)
theorem ln0 {v a c:Nat} (h:v<=a) (e:WQ (a+1) c=true):v<c:=Wi (Di h) (Wl e)
theorem lk1 {v a c b0:Nat} (h:v<a) (e:WQ (a+b0) c=true):v+b0<c:=Wi (WN h b0) (Wl e)
theorem ll1 {v a c b0:Nat} (h:v<=a) (e:WQ (a+b0) c=true):v+b0<=c:=yX (yU h b0) (Wl e)
theorem lm1 (h:v<a) (e:WQ (a+b0) (c+1)=true):v+b0<=c:=Dh (lk1 h e)
theorem ln1 {v a c b0:Nat} (h:v<=a) (e:WQ (a+b0+1) c=true):v+b0<c:=Wi (Di (yU h b0)) (Wl e)
theorem lk2 {v a c b0 b1:Nat} (h:v<a) (e:WQ (a+b0+b1) c=true):v+b0+b1<c:=Wi (WN (WN h b0) b1) (Wl e)
theorem ll2 {v a c b0 b1:Nat} (h:v<=a) (e:WQ (a+b0+b1) c=true):v+b0+b1<=c:=yX (yU (yU h b0) b1) (Wl e)
theorem lm2 (h:v<a) (e:WQ (a+b0+b1) (c+1)=true):v+b0+b1<=c:=Dh (lk2 h e)
theorem ln2 {v a c b0 b1:Nat} (h:v<=a) (e:WQ (a+b0+b1+1) c=true):v+b0+b1<c:=Wi (Di (yU (yU h b0) b1)) (Wl e)
theorem lk3 {v a c b0 b1 b2:Nat} (h:v<a) (e:WQ (a+b0+b1+b2) c=true):v+b0+b1+b2<c:=Wi (WN (WN (WN h b0) b1) b2) (Wl e)
theorem ll3 {v a c b0 b1 b2:Nat} (h:v<=a) (e:WQ (a+b0+b1+b2) c=true):v+b0+b1+b2<=c:=yX (yU (yU (yU h b0) b1) b2) (Wl e)
theorem lm3 (h:v<a) (e:WQ (a+b0+b1+b2) (c+1)=true):v+b0+b1+b2<=c:=Dh (lk3 h e)
theorem ln3 {v a c b0 b1 b2:Nat} (h:v<=a) (e:WQ (a+b0+b1+b2+1) c=true):v+b0+b1+b2<c:=Wi (Di (yU (yU (yU h b0) b1) b2)) (Wl e)
theorem lk4 {v a c b0 b1 b2 b3:Nat} (h:v<a) (e:WQ (a+b0+b1+b2+b3) c=true):v+b0+b1+b2+b3<c:=Wi (WN (WN (WN (WN h b0) b1) b2) b3) (Wl e)
theorem ll4 {v a c b0 b1 b2 b3:Nat} (h:v<=a) (e:WQ (a+b0+b1+b2+b3) c=true):v+b0+b1+b2+b3<=c:=yX (yU (yU (yU (yU h b0) b1) b2) b3) (Wl e)
theorem lm4 (h:v<a) (e:WQ (a+b0+b1+b2+b3) (c+1)=true):v+b0+b1+b2+b3<=c:=Dh (lk4 h e)
theorem ln4 {v a c b0 b1 b2 b3:Nat} (h:v<=a) (e:WQ (a+b0+b1+b2+b3+1) c=true):v+b0+b1+b2+b3<c:=Wi (Di (yU (yU (yU (yU h b0) b1) b2) b3)) (Wl e)
theorem lg0 {v a c:Nat} (h:a<=v) (e:WQ c a=true):c<=v:=yX (Wl e) h
theorem lg1 {v a c:Nat} (h:a<=v) (e:WQ (c+1) a=true):c<v:=yX (Wl e) h
theorem lz2 {v a:Nat} (h:v<=a) (e:decide ((a:Int)<c)=true):(v:Int)<c:=Int.lt_of_le_of_lt (Fk.mpr h) (of_decide_eq_true e)
theorem lz0 {w v a:Nat} (h:w<=a) (k:v<w) (e:decide ((a:Int)<c)=true):(v:Int)<c:=lz2 (yX (yV k) h) e
theorem ls1 {w v a c:Nat} (h:w<=a) (k:v<=w) (e:WQ a c=true):v<=c:=ll0 (yX k h) e
theorem ls2 {w v a c:Nat} (h:w<=a) (k:v=w) (e:WQ a c=true):v<=c:=ls1 h (Hd k) e
noncomputable abbrev KA:NE:= .k 0
noncomputable abbrev KB:NE:= .k 1
noncomputable abbrev KC:NE:= .k 2
noncomputable abbrev KD:NE:= .k 3
noncomputable abbrev KF:NE:= .k 4
noncomputable abbrev KG:NE:= .k 5
noncomputable abbrev KI:NE:= .k 8
noncomputable abbrev KJ:NE:= .k 9
noncomputable abbrev KK:NE:= .k 13
noncomputable abbrev KM:NE:= .k 20
noncomputable abbrev KN:NE:= .k 25
noncomputable abbrev KO:NE:= .k 100
noncomputable abbrev KP:NE:= .k 1000
noncomputable abbrev KR:NE:= .k 10000
noncomputable abbrev KS:NE:= .k 1000000
noncomputable abbrev KT:NE:= .k 16777216
noncomputable abbrev KU:NE:= .k 9223372036854775808
noncomputable abbrev UA:ZE:= .k 0
noncomputable abbrev UB:ZE:= .k 1
noncomputable abbrev UC:ZE:= .k 2
noncomputable abbrev UD:ZE:= .k 3
noncomputable abbrev UF:ZE:= .k 4
noncomputable abbrev UG:ZE:= .k 5
noncomputable abbrev UH:ZE:= .k 7
noncomputable abbrev UI:ZE:= .k 8
noncomputable abbrev UJ:ZE:= .k 9
noncomputable abbrev UL:ZE:= .k 16
noncomputable abbrev UN:ZE:= .k 25
noncomputable abbrev UP:ZE:= .k 1000
noncomputable abbrev UQ:ZE:= .k 4095
noncomputable abbrev US:ZE:= .k 1000000
noncomputable abbrev UU:ZE:= .k 9223372036854775808
noncomputable abbrev UV:ZE:= .k 4611686018427387904
noncomputable abbrev VA:NE:= .v 0
noncomputable abbrev VB:NE:= .v 1
noncomputable abbrev VC:NE:= .v 2
noncomputable abbrev VD:NE:= .v 3
noncomputable abbrev VE:NE:= .v 4
noncomputable abbrev VF:NE:= .v 5
noncomputable abbrev VH:NE:= .v 6
noncomputable abbrev ZA:ZE:= .v 0
noncomputable abbrev ZB:ZE:= .v 1
noncomputable abbrev ZC:ZE:= .v 2
theorem LA02 (l:List LCo) (g:LCo) (k k':List Int) (h:zY g l k k'=true):zW [] [x,y] (g.d [] [x,y]) l:=LA _ _ l g k k' h
theorem uc (l:List LCo) (g:LCo) (k k':List Int) (h:zY g l k k'=true):zW [a] [] (g.d [a] []) l:=LA _ _ l g k k' h
theorem Yi (l:List LCo) (g:LCo) (k k':List Int) (h:zY g l k k'=true):zW [a] [x] (g.d [a] [x]) l:=LA _ _ l g k k' h
theorem uA (l:List LCo) (g:LCo) (k k':List Int) (h:zY g l k k'=true):zW [a] [x,y] (g.d [a] [x,y]) l:=LA _ _ l g k k' h
theorem zH (l:List LCo) (g:LCo) (k k':List Int) (h:zY g l k k'=true):zW [a,b] [] (g.d [a,b] []) l:=LA _ _ l g k k' h
theorem xJ (l:List LCo) (g:LCo) (k k':List Int) (h:zY g l k k'=true):zW [a,b,c] [] (g.d [a,b,c] []) l:=LA _ _ l g k k' h
theorem jA (l:List LCo) (g:LCo) (k k':List Int) (h:zY g l k k'=true):zW [a,b,c,d] [] (g.d [a,b,c,d] []) l:=LA _ _ l g k k' h
theorem kL (l:List LCo) (g:LCo) (k:List Int) (h:zY g l k k=true):zW [] [x] (g.d [] [x]) l:=LA _ _ l g k k h
theorem vt (l:List LCo) (g:LCo) (k:List Int) (h:zY g l k k=true):zW [] [x,y] (g.d [] [x,y]) l:=LA _ _ l g k k h
theorem zI (l:List LCo) (g:LCo) (k:List Int) (h:zY g l k k=true):zW [a] [] (g.d [a] []) l:=LA _ _ l g k k h
theorem LB11 (l:List LCo) (g:LCo) (k:List Int) (h:zY g l k k=true):zW [a] [x] (g.d [a] [x]) l:=LA _ _ l g k k h
theorem qM (l:List LCo) (g:LCo) (k:List Int) (h:zY g l k k=true):zW [a,b] [] (g.d [a,b] []) l:=LA _ _ l g k k h
theorem wF (l:List LCo) (g:LCo) (k:List Int) (h:zY g l k k=true):zW [a,b] [x] (g.d [a,b] [x]) l:=LA _ _ l g k k h
theorem qQ (l:List LCo) (g:LCo) (k:List Int) (h:zY g l k k=true):zW [a,b,c] [] (g.d [a,b,c] []) l:=LA _ _ l g k k h
theorem LB31 (l:List LCo) (g:LCo) (k:List Int) (h:zY g l k k=true):zW [a,b,c] [x] (g.d [a,b,c] [x]) l:=LA _ _ l g k k h
theorem zN (l:List LCo) (g:LCo) (k:List Int) (h:zY g l k k=true):zW [a,b,c,d] [] (g.d [a,b,c,d] []) l:=LA _ _ l g k k h
theorem LB41 (l:List LCo) (g:LCo) (k:List Int) (h:zY g l k k=true):zW [a,b,c,d] [x] (g.d [a,b,c,d] [x]) l:=LA _ _ l g k k h
noncomputable abbrev zV (l:List LCo):List Int:=1::l.map λ_=>1
theorem za (l:List LCo) (g:LCo) (h:zY g l (zV l) (zV l)=true):zW [] [x] (g.d [] [x]) l:=LA _ _ l g _ _ h
theorem QH (l:List LCo) (g:LCo) (h:zY g l (zV l) (zV l)=true):zW [] [x,y] (g.d [] [x,y]) l:=LA _ _ l g _ _ h
theorem qD (l:List LCo) (g:LCo) (h:zY g l (zV l) (zV l)=true):zW [a] [] (g.d [a] []) l:=LA _ _ l g _ _ h
theorem Xm (l:List LCo) (g:LCo) (h:zY g l (zV l) (zV l)=true):zW [a] [x] (g.d [a] [x]) l:=LA _ _ l g _ _ h
theorem qq (l:List LCo) (g:LCo) (h:zY g l (zV l) (zV l)=true):zW [a,b] [] (g.d [a,b] []) l:=LA _ _ l g _ _ h
theorem Ur (l:List LCo) (g:LCo) (h:zY g l (zV l) (zV l)=true):zW [a,b] [x] (g.d [a,b] [x]) l:=LA _ _ l g _ _ h
theorem qR (l:List LCo) (g:LCo) (h:zY g l (zV l) (zV l)=true):zW [a,b,c] [] (g.d [a,b,c] []) l:=LA _ _ l g _ _ h
theorem LU31 (l:List LCo) (g:LCo) (h:zY g l (zV l) (zV l)=true):zW [a,b,c] [x] (g.d [a,b,c] [x]) l:=LA _ _ l g _ _ h
theorem kr (l:List LCo) (g:LCo) (h:zY g l (zV l) (zV l)=true):zW [a,b,c,d] [] (g.d [a,b,c,d] []) l:=LA _ _ l g _ _ h
theorem LU41 (l:List LCo) (g:LCo) (h:zY g l (zV l) (zV l)=true):zW [a,b,c,d] [x] (g.d [a,b,c,d] [x]) l:=LA _ _ l g _ _ h
noncomputable section
inductive V where
 |none
 |bool (b:Bool)
 |int (i:Int)
 |sym (i:Nat)
 |str (s:Str)
 |bytes (b:List UInt8)
 |ref (a:yu)
 |fix (v:yr)
structure G where
 prog:DU
 w:DV
 K:B0
 base:W0
 tab:List Str
 globs:List (Nat × yr)
 gens:Array Bc
 drawn:Drawn
 os:F9
noncomputable def G.nm (g:G) (i:Nat):Str:=g.tab.getD i Str.empty
noncomputable abbrev G.M (g:G):Model:=Wf g.prog g.w
def GX (a b:Array Bc):Prop:=(∀(i:Nat) (x:Bc),a[i]? =some x->b[i]? =some x)/\AllBare b
theorem GX.refl (h:AllBare a):GX a a:=(qa (λoo oo e=>e) h)
theorem GX.trans (h:GX a b) (k:GX b c):GX a c:=(qa (λi x e=>k.1 i x (h.1 i x e)) k.2)
def VR (g:G):V->yr->Prop
 | .none,v=>v= .none
 | .bool b,v=>v= .bool b
 | .int i,v=>∃t,v= .int i t
 | .sym i,v=>i<g.tab.length/\∃t,v= .str (g.nm i) t
 | .str s,v=>∃t,v= .str s t
 | .bytes b,v=>∃t,v= .bytes b.toArray t
 | .ref a,v=>v= .ref a
 | .fix w,v=>v=w
section
variable {g:G}
theorem VR.none:VR g .none .none:=rfl
theorem VR.bool {b}:VR g (.bool b) (.bool b):=rfl
theorem VR.int {i t}:VR g (.int i) (.int i t):=(qx _ rfl)
theorem VR.sym {i t} (h:i<g.tab.length):VR g (.sym i) (.str (g.nm i) t):=(qa h (qx _ rfl))
theorem VR.str {s t}:VR g (.str s) (.str s t):=(qx _ rfl)
theorem VR.bytes {t}:VR g (.bytes b) (.bytes b.toArray t):=(qx _ rfl)
theorem VR.ref {a}:VR g (.ref a) (.ref a):=rfl
theorem VR.fix {v}:VR g (.fix v) v:=rfl
def zg {α β:Type} (R:α->β->Prop):List α->List β->Prop
 |[],vs=>vs=[]
 |x::xs,vs=>∃v r,vs=v::r/\R x v/\zg R xs r
section
variable {α β γ:Type} {R:α->β->Prop}
theorem zg.nil:zg R [] []:=rfl
theorem zg.cons {x v xs vs} (h:R x v) (k:zg R xs vs):zg R (x::xs) (v::vs):=(qe _ _ rfl h k)
theorem zg.length {xs}: ∀{vs},zg R xs vs->vs.length=xs.length:=by
 induction xs with
 |nil=>
  exact @λoo h=>by obtain rfl:=h;rfl
 |cons hd tl ih=>
  exact @λoo h=>by (refine qk h λv r z1 oo k=>?_;clear h;subst z1);simp [ih k]
theorem zg.get: ∀{vs:List β},zg R xs vs->∀{i:Nat} {x},xs[i]? =some x->∃v,vs[i]? =some v/\R x v:=by
 induction xs with
 |nil=>
  exact @λoo h i x e=>by simp at e
 |cons y ys ih=>
  exact @λoo h i x e=>by
   (refine qk h λv r z2 h1 k=>?_;clear h;subst z2)
   cases i with
   |zero=>simp only [List.getElem?_cons_zero,Wc.injEq] at e;subst e;exact qj _ rfl h1
   |succ n=>simp only [W3] at e |-;exact ih k e
theorem zg.append {xs}: ∀{vs ys ws},zg R xs vs->zg R ys ws->zg R (xs++ys) (vs++ws):=by
 induction xs with
 |nil=>
  exact @λoo oo oo h k=>by obtain rfl:=h;exact k
 |cons hd tl ih=>
  exact @λoo oo oo h k=>by (refine qk h λv r z3 h1 h2=>?_;clear h;subst z3);exact .cons h1 (ih h2 k)
theorem zg.set {xs}: ∀{vs},zg R xs vs->∀{x v},R x v->∀{i:Nat},zg R (xs.set i x) (vs.set i v):=by
 induction xs with
 |nil=>
  exact @λoo h oo oo oo i=>by obtain rfl:=h;rfl
 |cons hd tl ih=>
  exact @λoo h oo oo k i=>by
   (refine qk h λv r z4 h1 h2=>?_;clear h;subst z4)
   cases i with
   |zero=>exact .cons k h2
   |succ n=>exact .cons h1 (ih h2 k)
theorem zg.take {xs}: ∀{vs},zg R xs vs->∀{i:Nat},zg R (xs.take i) (vs.take i):=by
 induction xs with
 |nil=>
  exact @λoo h i=>by obtain rfl:=h;simp;rfl
 |cons hd tl ih=>
  exact @λoo h i=>by
   (refine qk h λv r z5 h1 h2=>?_;clear h;subst z5)
   cases i with
   |zero=>rfl
   |succ n=>exact .cons h1 (ih h2)
theorem zg.drop {xs}: ∀{vs},zg R xs vs->∀{i:Nat},zg R (xs.drop i) (vs.drop i):=by
 induction xs with
 |nil=>
  exact @λoo h i=>by obtain rfl:=h;simp;rfl
 |cons hd tl ih=>
  exact @λoo h i=>by
   (refine qk h λv r z6 h1 h2=>?_;clear h;subst z6)
   cases i with
   |zero=>exact .cons h1 h2
   |succ n=>exact ih h2
theorem zg.split: ∀{ys:List α} {ws:List β},zg R (xs++ys) ws->∃us vs,ws=us++vs/\zg R xs us/\zg R ys vs:=by
 induction xs with
 |nil=>
  exact @λys ws h=>(qe [] ws rfl rfl h)
 |cons x xs ih=>
  exact @λys ws h=>by
   (refine qk h λv r z7 h1 h2=>?_;clear h;subst z7)
   (refine qk (ih h2) λus vs z8 k1 k2=>?_;subst z8)
   exact qe (v::us) vs rfl (.cons h1 k1) k2
end
abbrev VRs (g:G):List V->List yr->Prop:=zg (VR g)
inductive O where
 |list (xs:List V)
 |tup (xs:List V)
 |sdict (es:List (Nat × V))
 |idict (es:List (Int × V))
 |inst (C:yu) (at':List (Nat × V)) (x:Option yr)
 |cell (v:Option V)
 |rng (a b c:Int)
 |exc0 (C:yu) (t:yr)
 |raw (o:Obj)
 |many (L:List (yu × Obj))
abbrev AR (g:G):List (Nat × V)->List DictEntry->Prop:=zg λa e=>a.1<g.tab.length/\VR g a.2 e.val/\∃h t,e=⟨h,.str (g.nm a.1) t,e.val⟩
abbrev SR (g:G):List (Nat × V)->List (Str × yr)->Prop:=zg λa e=>a.1<g.tab.length/\e.1=g.nm a.1/\VR g a.2 e.2
abbrev IR (g:G):List (Int × V)->List (Int × yr)->Prop:=zg λa e=>e.1=a.1/\VR g a.2 e.2
noncomputable def kI (C dx:yu):Option yr->Obj
 |none=>instObj C dx
 |some t=>{cls:= .ref C,dict:=some dx,data:= .fields #[t,.none,.none,.none,.bool false,.none]}
theorem kM:(kI C dx x).cls= .ref C:=by cases x<;>rfl
theorem Zd:(kI C dx x).dict=some dx:=by cases x<;>rfl
theorem JL (h1:h.get? a=some (kI C dx x)) (h2:h.get? dx=some od):InstAt h a (kI C dx x) C (some od):=
 ⟨h1,kM,by cases x<;>rfl,by rw [Zd];exact h2⟩
def OR (g:G) (a:yu):O->List (yu × Obj)->Prop
 | .list xs,N=>∃vs n,VRs g xs vs/\N=[(a,Bi vs.toArray n)]
 | .tup xs,N=>∃vs n,VRs g xs vs/\N=[(a,{cls:= .type "tuple",data:= .seq vs.toArray n})]
 | .sdict es,N=>∃kvs o,SR g es kvs/\Obj.IsDictOf (strKind g.prog g.w) o kvs/\N=[(a,o)]
 | .idict es,N=>∃kvs o,IR g es kvs/\Obj.IsDictOf (intKind g.prog g.w) o kvs/\N=[(a,o)]
 | .inst C at' x,N=>∃dx es n,AR g at' es/\N=[(a,kI C dx x),(dx,Da es n)]
 | .cell none,N=>∃o:Obj,o.data= .cell .none/\N=[(a,o)]
 | .cell (some x),N=>∃(v:yr) (o:Obj),VR g x v/\o.data= .cell (some v)/\N=[(a,o)]
 | .rng i j k,N=>∃t u v:Tok,N=[(a,{cls:= .type "range",data:= .fields #[.int i t,.int j u,.int k v]})]
 | .exc0 C t,N=>N=[(a,{cls:= .ref C,data:= .fields #[t,.none,.none,.none,.bool false,.none]})]
 | .raw o,N=>N=[(a,o)]
 | .many L,N=>N=L
def HR (g:G):List (yu × O)->List (yu × Obj)->Prop
 |[],N=>N=[]
 |p::H,N=>∃N₁ N₂,N=N₁++N₂/\OR g p.1 p.2 N₁/\HR g H N₂
theorem HR.cons {H N₁ N₂} (h:OR g p.1 p.2 N₁) (k:HR g H N₂):HR g (p::H) (N₁++N₂):=(qe _ _ rfl h k)
theorem HR.append {H}: ∀{N H' N'},HR g H N->HR g H' N'->HR g (H++H') (N++N'):=by
 induction H with
 |nil=>
  exact @λoo oo oo h k=>by cases h;exact k
 |cons hd tl ih=>
  exact @λoo oo oo h k=>by (refine qk h λN₁ N₂ z9 a b=>?_;clear h;subst z9);rw [yG];exact .cons a (ih b k)
theorem HR.get {H}: ∀{N},HR g H N->∀{a o},(a,o)∈H->∃N₁,OR g a o N₁/\∀p∈N₁,p∈N:=by
 induction H with
 |nil=>
  exact @λoo oo oo oo m=>nomatch m
 |cons p H ih=>
  exact @λoo h a o m=>by
   (refine qk h λN₁ N₂ u h1 h2=>?_;clear h;subst u)
   refine Or.elim (yy.mp m) (λe=>?_) λm=>?_
   ·subst e;exact qj N₁ h1 (λp hp=>yA _ hp)
   ·refine qf (ih h2 m) λN' k1 k2=>?_;exact qj N' k1 (λp hp=>yx _ (k2 p hp))
inductive HU (a:yu) (o o':O):List (yu × O)->List (yu × O)->Prop
 |head {r}:HU a o o' ((a,o)::r) ((a,o')::r)
 |tail {p r r'}:HU a o o' r r'->HU a o o' (p::r) (p::r')
theorem HU.mem {a o o' H H'} (h:HU a o o' H H'):(a,o)∈H:=by
 induction h with
 |head=>exact .head _
 |tail _ ih=>exact .tail _ ih
theorem HR.upd {a o o' H H'} (u:HU a o o' H H'): ∀{N},HR g H N->∃N₁ pre C,N=pre++(N₁++C)/\OR g a o N₁/\∀F,OR g a o' F->HR g H' (pre++(F++C)):=by
 induction u with
 |head=>intro N h;(refine qk h λN₁ N₂ X h1 h2=>?_;clear h;subst X);exact zX N₁ [] N₂ rfl h1 (λF k=>(qe F N₂ rfl k h2))
 |tail u ih=>
  intro N h
  (refine qk h λN₁ N₂ J h1 h2=>?_;clear h;subst J)
  (refine kT (ih h2) λM pre C I k1 k2=>?_;subst I)
  exact zX M (N₁++pre) C (by rw [yG]) k1 (λF k=>by rw [yG];exact .cons h1 (k2 _ k))
inductive Sub {α:Type}:List α->List α->Prop
 |nil:Sub [] []
 |keep {p r r'}:Sub r r'->Sub (p::r) (p::r')
 |drop {p r r'}:Sub r r'->Sub r (p::r')
theorem Sub.refl: ∀(l:List α),Sub l l
 |[]=> .nil
 |_::r=> .keep (Sub.refl r)
theorem Sub.mem (h:Sub l l'): ∀{x},x∈l->x∈l':=by
 induction h with
 |nil=>intro x m;exact m
 |keep _ ih=>intro x m;rcases yy.mp m with rfl|m;exact .head _;exact .tail _ (ih m)
 |drop _ ih=>intro x m;exact .tail _ (ih m)
theorem Sub.map {f:α->β} {l l':List α} (h:Sub l l'):Sub (l.map f) (l'.map f):=by
 induction h with
 |nil=>exact .nil
 |keep _ ih=>exact .keep ih
 |drop _ ih=>exact .drop ih
theorem Sub.nodup (h:Sub l l'):l'.Nodup->l.Nodup:=by
 induction h with
 |nil=>exact id
 |keep k ih=>intro n;rw [Wd] at n |-;exact qa (λm=>n.1 (k.mem m)) (ih n.2)
 |drop _ ih=>intro n;rw [Wd] at n;exact ih n.2
theorem Sub.append (h:Sub l l') (k:Sub r r'):Sub (l++r) (l'++r'):=by
 induction h with
 |nil=>exact k
 |keep _ ih=>exact .keep ih
 |drop _ ih=>exact .drop ih
theorem Sub.none: ∀(l:List α),Sub [] l
 |[]=> .nil
 |_::r=> .drop (Sub.none r)
theorem Sub.left {r r':List α} (k:Sub r r'): ∀(l:List α),Sub r (l++r')
 |[]=>k
 |_::l=> .drop (Sub.left k l)
theorem HR.sub {H' H} (k:Sub H' H): ∀{N},HR g H N->∃N',HR g H' N'/\Sub N' N:=by
 induction k with
 |nil=>intro N h;exact qj N h (.refl _)
 |keep _ ih=>
  intro N h
  (refine qk h λN₁ N₂ C h1 h2=>?_;clear h;subst C)
  refine qf (ih h2) λN' a b=>?_
  exact qj _ (.cons h1 a) ((Sub.refl _).append b)
 |drop _ ih=>
  intro N h
  (refine qk h λN₁ N₂ u h1 h2=>?_;clear h;subst u)
  refine qf (ih h2) λN' a b=>?_
  exact qj N' a (b.left _)
theorem HR.perm (p:H.Perm H'): ∀{N},HR g H N->∃N',HR g H' N'/\N.Perm N':=by
 induction p with
 |nil=>intro N h;exact qj N h (.refl _)
 |cons x _ ih=>
  intro N h
  (refine qk h λN₁ N₂ I h1 h2=>?_;clear h;subst I)
  refine qf (ih h2) λN' a b=>?_
  exact qj _ (.cons h1 a) (b.append_left _)
 |swap x y l=>
  intro N h
  (refine qk h λN₁ N₂ F h1 u=>?_;refine qk u λM₁ M₂ C h2 h3=>?_;clear h;subst F;subst C)
  refine qj _ (.cons h2 (.cons h1 h3)) ?_
  rw [<- yG,<- yG]
  exact WA.append_right _
 |trans _ _ X J=>
  intro N h
  refine qf (X h) λN1 a1 b1=>?_
  refine qf (J a1) λN2 a2 b2=>?_
  exact qj N2 a2 (b1.trans b2)
theorem HR.split: ∀{H₂:List (yu × O)} {N},HR g (H₁++H₂) N->∃N₁ N₂,N=N₁++N₂/\HR g H₁ N₁/\HR g H₂ N₂:=by
 induction H₁ with
 |nil=>
  exact @λH₂ N h=>(qe [] N rfl rfl h)
 |cons p r ih=>
  exact @λH₂ N h=>by
   (refine qk h λM₁ M₂ C h1 h2=>?_;clear h;subst C)
   (refine qk (ih h2) λN₁ N₂ u a b=>?_;subst u)
   exact qe (M₁++N₁) N₂ ((yG ..).symm) (.cons h1 a) b
end
def Zh (o:Obj) (m:Str->Option yr):Prop:=∃es ep,o.data= .dict es ep/\StrKeys es/\∀x,nsFind es x=m x
abbrev NR:List (yu × (Str->Option yr))->List (yu × Obj)->Prop:=zg λp q=>q.1=p.1/\Zh q.2 p.2
structure Lay (prot:W0) (all:List (yu × Obj)) (h:W0):Prop where
 nodup:(all.map (·.1)).Nodup
 there: ∀p∈all,h.get? p.1=some p.2
 fresh: ∀p∈all,prot.get? p.1=none
 stays:prot.StaysIn h
 big: ∃b o,WV<=b/\prot.get? b=some o
 low: ∀p∈all,WV<p.1
theorem Lay.sub {prot h all all'} (L:Lay prot all h) (k:Sub all' all):Lay prot all' h:=
 ⟨k.map.nodup L.nodup,λp m=>L.there p (k.mem m),λp m=>L.fresh p (k.mem m),L.stays,L.big,λp m=>L.low p (k.mem m)⟩
theorem Lay.perm {prot h all all'} (L:Lay prot all h) (p:all.Perm all'):Lay prot all' h:=
 ⟨(p.map _).nodup_iff.mp L.nodup,λq m=>L.there q (p.mem_iff.mpr m),λq m=>L.fresh q (p.mem_iff.mpr m),L.stays,L.big,λq m=>L.low q (p.mem_iff.mpr m)⟩
theorem Lay.old {prot h all} (L:Lay prot all h): ∀p∈all,p.1<h.objs.size:=λp m=>Heap.lt_size (L.there p m)
theorem Lay.new {prot h all} (L:Lay prot all h) {b:yu} (hb:h.objs.size<=b):prot.get? b=none:=by
 cases q:prot.get? b with
 |none=>rfl
 |some o=>exact absurd (Heap.lt_size (L.stays b o q)) (BK.mpr hb)
theorem Lay.static {prot h all} (L:Lay prot all h) {b:yu} (hb:h.objs.size<=b):WV<b:=by
 refine qB (L.big) λc o hc he=>?_
 exact Wi (WJ hc (Heap.lt_size (L.stays _ _ he))) hb
theorem Lay.keeps {prot h h' all} (L:Lay prot all h) (k: ∀b o,h.get? b=some o->h'.get? b=some o):Lay prot all h':=
 ⟨L.nodup,λp m=>k _ _ (L.there p m),L.fresh,λb o e=>k _ _ (L.stays b o e),L.big,L.low⟩
theorem Lay.cons {prot h h' all} {a:yu} (L:Lay prot all h) (ha:h.objs.size<=a) (ho:h'.get? a=some o) (k: ∀b o,h.get? b=some o->h'.get? b=some o):Lay prot ((a,o)::all) h':=by
 have L':=L.keeps k
 refine ⟨?_,λp m=>?_,λp m=>?_,L'.stays,L.big,λp m=>?_⟩
 ·rw [yH,Wd]
  refine qa (λm=>?_) L.nodup
  refine qf (yD.mp m) λp hp e=>?_
  have:=L.old p hp;rw [e] at this;exact BK.mpr ha this
 ·rcases yy.mp m with rfl|m
  ·exact ho
  ·exact L'.there p m
 ·rcases yy.mp m with rfl|m
  ·exact L.new ha
  ·exact L.fresh p m
 ·rcases yy.mp m with rfl|m
  ·exact L.static ha
  ·exact L.low p m
theorem Lay.push {prot h all} (L:Lay prot all h) (o:Obj) (hf:o.isFreed=false:=by rfl):Lay prot ((h.objs.size,o)::all) (h.push o):=
 L.cons (yM _) (Heap.get?_push_size _ hf) λoo oo e=>Heap.get?_push_of_some _ e
theorem Lay.upd {prot h h' post} (L:Lay prot ((a,o)::post) h) (hs: ∀b x,b≠a->h.get? b=some x->h'.get? b=some x) (ho:h'.get? a=some o'):Lay prot ((a,o')::post) h':=by
 have nd:=L.nodup
 rw [yH,Wd] at nd
 have fa:=L.fresh (a,o) (.head _)
 refine ⟨by rw [yH,Wd];exact nd,λp m=>?_,λp m=>?_,λb x e=>hs b x (λq=>?_) (L.stays b x e),L.big,λp m=>?_⟩
 ·rcases yy.mp m with rfl|m
  ·exact ho
  ·exact hs _ _ (λe=>nd.1 (e ▸ yT (f:=(·.1)) m)) (L.there p (.tail _ m))
 ·rcases yy.mp m with rfl|m
  ·exact fa
  ·exact L.fresh p (.tail _ m)
 ·subst q;rw [fa] at e;cases e
 ·rcases yy.mp m with rfl|m
  ·exact L.low (a,o) (.head _)
  ·exact L.low p (.tail _ m)
structure Fx where
 env:Env
 L:yu
 slots:List Nat
 cells:List (Nat × yu)
 prot:W0
 frames:List Env
 outs:List (yu × (Str->Option yr))
 hd:Option yr
 keep:List yu
structure St where
 loc:List (Option V)
 H:List (yu × O)
noncomputable def lk:List (Option V)->Nat->Option V
 |[],_=>none
 |a::_,0=>a
 |_::r,i+1=>lk r i
noncomputable def st:List (Option V)->Nat->V->List (Option V)
 |[],_,_=>[]
 |_::r,0,x=>some x::r
 |a::r,i+1,x=>a::st r i x
theorem Z4: ∀{l:List (Option V)} {i j:Nat} {x:V},i≠j->lk (st l i x) j=lk l j
 |[],_,_,_,_=>rfl
 |_::_,0,0,_,h=>(h rfl).elim
 |_::_,0,_+1,_,_=>rfl
 |_::_,_+1,0,_,_=>rfl
 |_::r,i+1,j+1,x,h=>Z4 (l:=r) λe=>h (e ▸ rfl)
theorem uh: ∀{l:List (Option V)} {i:Nat} {x y:V},lk (st l i x) i=some y->y=x
 |[],_,_,_,h=>by cases h
 |_::_,0,_,_,h=>by cases h;rfl
 |_::r,i+1,x,y,h=>uh (l:=r) h
def jc (g:G) (slots:List Nat) (loc:List (Option V)) (m:Str->Option yr):Prop:=
 ∀(i n:Nat) (x:V),slots[i]? =some n->lk loc i=some x->∃v,m (g.nm n)=some v/\VR g x v
def Rep (g:G) (f:Fx) (σ:St) (s:yF):Prop:=
 ∃m nso N,NR ((f.L,m)::f.outs) nso/\HR g σ.H N/\Lay f.prot (nso++N) s.heap/\jc g f.slots σ.loc m/\GX g.gens s.gens/\s.drawn=g.drawn/\s.os=g.os
structure AOk (f:Fx) (n:Nat) (A:y9):Prop where
 frames:A.frames=some f.frames
 units:A.units<=n
 depth:A.depth<=n
 hd:A.handled=f.hd
 guards:A.guards=some []
inductive Ctx (h:W0):yr->List yu->Prop
 |none:Ctx h .none []
 |more {k ok vs c l}:h.get? k=some ok->ok.data= .fields vs->vs[2]? =some c->Ctx h c l->Ctx h (.ref k) (k::l)
def je (h h':W0):Prop:=∀k ok vs,h.get? k=some ok->ok.data= .fields vs->∃ok' vs',h'.get? k=some ok'/\ok'.data= .fields vs'/\vs'[2]? =vs[2]?
theorem Ctx.keep (x:je h h') (c:Ctx h v l):Ctx h' v l:=by
 induction c with
 |none=>exact .none
 |more h1 h2 h3 _ ih=>refine qk (x _ _ _ h1 h2) λu g a b c=>?_;exact .more a b (c.trans h3) ih
theorem je.of (x: ∀b o,h.get? b=some o->h'.get? b=some o):je h h':=λk ok vs h1 h2=>(qe ok vs (x _ _ h1) h2 rfl)
theorem je.trans (x:je h h') (y:je h' h''):je h h'':=λk ok vs h1 h2=>by
 refine qk (x _ _ _ h1 h2) λF C a b c=>?_
 refine qk (y _ _ _ a b) λu g a' b' c'=>?_
 exact qe u g a' b' (c'.trans c)
def wB (prot:W0) (told:List yu) (a:yu):Prop:=prot.get? a=none/\a ∉ told
def Yu (prot:W0) (told:List yu) (e:yu) (vs:Array yr) (h:W0):Prop:=
 ∃T oT ts,vs[1]? =some (.ref T)/\T≠e/\wB prot told T/\h.get? T=some oT/\oT.data= .fields ts/\3<ts.size
def Ub (P:Array yr->Prop) (prot:W0) (told keep:List yu) (e:yu) (cls:yr) (h:W0):Prop:=
 ∃oe vs c,h.get? e=some oe/\oe.cls=cls/\oe.data= .fields vs/\wB prot told e/\(vs[2]? =some c/\∃l,Ctx h c l/\∀k∈l,k∈keep\/wB prot told k)/\P vs
abbrev QQ (prot:W0) (told keep:List yu) (e:yu) (cls:yr) (h:W0):Prop:=Ub (λvs=>vs[1]? =some .none\/Yu prot told e vs h) prot told keep e cls h
abbrev ExTr (prot:W0) (told keep:List yu) (e:yu) (cls:yr) (h:W0):Prop:=Ub (λvs=>Yu prot told e vs h) prot told keep e cls h
theorem Ub.re (hP: ∀vs,P vs->P' vs) (k: ∀a,wB prot told a->wB prot' told' a) (kk: ∀a∈keep,a∈keep'\/wB prot' told' a) (x:Ub P prot told keep e cls h):Ub P' prot' told' keep' e cls h:=by
 (refine xB x λoe vs c a1 a2 a3 a4 g a6=>?_;obtain ⟨a5,l,l1,l2⟩:=g)
 exact xI oe vs c a1 a2 a3 (k _ a4) (qa a5 (qj l l1 (λb hb=>(l2 b hb).elim (kk b) λz=> .inr (k _ z)))) (hP _ a6)
theorem Yu.re (k: ∀a,wB prot told a->wB prot' told' a) (x:Yu prot told e vs h):Yu prot' told' e vs h:=by
 refine xF x λT oT ts z1 z2 z3 z4=>?_
 exact xi T oT ts z1 z2 (k _ z3) z4
theorem QQ.re (k: ∀a,wB prot told a->wB prot' told' a) (kk: ∀a∈keep,a∈keep'\/wB prot' told' a) (x:QQ prot told keep e cls h):QQ prot' told' keep' e cls h:=
 Ub.re (λvs z=>z.imp id (·.re k)) k kk x
def ku (P:W0->List yu->Prop) (g:G) (f:Fx) (σ:St) (s:yF):Prop:=
 ∃m nso N,NR ((f.L,m)::f.outs) nso/\HR g σ.H N/\Lay f.prot (nso++N) s.heap/\jc g f.slots σ.loc m/\(GX g.gens s.gens/\s.drawn=g.drawn/\s.os=g.os)/\P s.heap ((nso++N).map (·.1))
abbrev zF (g:G) (f:Fx) (σ:St) (s:yF) (e:yu) (cls:yr):Prop:=ku (λh told=>QQ f.prot told f.keep e cls h) g f σ s
abbrev jR (g:G) (f:Fx) (σ:St) (s:yF) (e:yu) (cls:yr):Prop:=ku (λh told=>ExTr f.prot told f.keep e cls h) g f σ s
theorem ku.imp {g f σ s} (h:ku P g f σ s) (k: ∀t,P s.heap t->P' s.heap t):ku P' g f σ s:=by
 refine xB h λm u N a b c d x y=>?_
 exact xI m u N a b c d x (k _ y)
theorem jR.x {g f σ s e cls} (h:jR g f σ s e cls):zF g f σ s e cls:=ku.imp h λoo z=>z.re (λoo=> .inr) (λoo z=>z) λoo z=> .inl z
theorem ku.rep {g f σ s} (h:ku P g f σ s):Rep g f σ s:=by
 refine xB h λm u N a b c d x oo=>?_
 exact ji m u N a b c d x
structure Ex where
 addr:yu
 cls:yr
noncomputable abbrev QV:=V->St->Prop
noncomputable abbrev QE:=Ex->St->Prop
def EP (g:G) (f:Fx) (E:QE) (v:yr) (s:yF):Prop:=
 ∃x σ,v= .ref x.addr/\zF g f σ s x.addr x.cls/\E x σ
def W {α β:Type} (g:G) (f:Fx) (n:Nat) (r:β->α->Prop) (t:Sem α) (Q:β->St->Prop) (E:QE) (σ:St):Prop:=
 ∀A s,AOk f n A->Rep g f σ s->yP g.M A t (λv s'=>∃x σ',r x v/\Rep g f σ' s'/\Q x σ') (EP g f E) s
section
variable {α β γ δ:Type} {g:G} {f:Fx} {n:Nat} {r:β->α->Prop} {r':δ->γ->Prop} {E:QE} {σ:St}
theorem xG (h:W g f n r t Q E σ) (hQ: ∀x σ,Q x σ->Q' x σ) (hE: ∀x σ,E x σ->E' x σ):W g f n r t Q' E' σ:=
 λA s hA hs=>yK (h A s hA hs) (λoo oo zf=>zf.elim λx zf=>zf.elim λσ' zf=>zf.elim λa zf=>zf.elim λb c=>(qe x σ' a b (hQ _ _ c))) λoo oo zf=>zf.elim λx zf=>zf.elim λσ' zf=>zf.elim λa zf=>zf.elim λb c=>(qe x σ' a b (hE _ _ c))
theorem wV (h:W g f n r m (λx σ'=>∀v,r x v->W g f n r' (k v) Q E σ') E σ):W g f n r' (m>>=k) Q E σ:=
 λA s hA hs=>yo (yK (h A s hA hs) (λv s' zf=>zf.elim λx zf=>zf.elim λσ' zf=>zf.elim λhr zf=>zf.elim λhs' hq=>hq v hr A s' hA hs') λoo oo e=>e)
theorem qu (h:W g f n r m Q E σ) (hk: ∀x σ,Q x σ->∀v,r x v->W g f n r' (k v) Q' E σ):W g f n r' (m>>=k) Q' E σ:=
 wV (xG h hk λoo oo e=>e)
theorem qI (hr:r x a) (h:Q x σ):W g f n r (pure a) Q E σ:=
 λoo oo oo hs=>yB (qe x σ hr hs h)
theorem j5 (h:W g f n r' (k a) Q E σ):W g f n r' (pure a>>=k) Q E σ:=
 λA s hA hs=>yo (yB (h A s hA hs))
theorem qr (h:W g f n r t Q E σ):W g f n r (holding vs t) Q E σ:=
 λA s hA hs=>Wr (h A s hA hs)
theorem qi (h:W g f n r' (k ()) Q E σ):W g f n r' (standAt p>>=k) Q E σ:=
 λA s hA hs=>yo (Bh (h A s hA hs))
theorem Rep.toks (h:Rep g f σ s) (t:Nat):Rep g f σ {s with toks:=t}:=h
theorem Rep.sub (h:Rep g f σ s) (k:Sub H σ.H):Rep g f {σ with H:=H} s:=by
 refine xF h λm u N a b c d=>?_
 refine qf (b.sub k) λN' b' k'=>?_
 exact xi m u N' a b' (c.sub ((Sub.refl u).append k')) d
theorem Rep.perm (h:Rep g f σ s) (p:σ.H.Perm H):Rep g f {σ with H:=H} s:=by
 refine xF h λm u N a b c d=>?_
 refine qf (b.perm p) λN' b' k'=>?_
 exact xi m u N' a b' (c.perm (k'.append_left _)) d
theorem Rep.big (h:Rep g f σ s): ∃b o,WV<=b/\f.prot.get? b=some o:=by
 refine xF h λm u N a b c d=>?_;exact c.big
theorem Rep.push {s:yF} {o:O} {obj:Obj} (h:Rep g f σ s) (ho:OR g s.heap.objs.size o [(s.heap.objs.size,obj)]) (hf:obj.isFreed=false:=by rfl):
  Rep g f {σ with H:=(s.heap.objs.size,o)::σ.H} {s with heap:=s.heap.push obj}:=by
 refine xF h λm u N a b c d=>?_
 exact xi m u ([(s.heap.objs.size,obj)]++N) a (.cons ho b) ((c.push obj hf).perm Bd.symm) d
theorem Rep.upd (h:Rep g f σ s) (u:HU a o o' σ.H H'): ∃N₁,OR g a o N₁/\(∀p∈N₁,s.heap.get? p.1=some p.2)/\
  ∀(I:List (yu × Obj)) (h':W0),OR g a o' I->(∀prot C,Lay prot (N₁++C) s.heap->Lay prot (I++C) h')->Rep g f {σ with H:=H'} {s with heap:=h'}:=by
 refine xF h λm F N x1 x2 x3 x4=>?_
 (refine kT (HR.upd u x2) λN₁ pre C J k1 k2=>?_;subst J)
 have sw: ∀N₁:List (yu × Obj),(F++(pre++(N₁++C))).Perm (N₁++(F++(pre++C))):=λN₁=>by
  rw [<- yG,<- yG,<- yG F pre C,<- yG N₁]
  exact WA.append_right _
 exact qK N₁ k1 (λp hp=>x3.there p (yx _ (yx _ (yA _ hp)))) (λI h' ho hl=>(xi m F _ x1 (k2 _ ho) ((hl _ _ (x3.perm (sw _))).perm (sw _).symm) x4))
theorem Rep.upd1 (h:Rep g f σ s) (u:HU a o o' σ.H H') (h1: ∀N,OR g a o N->∃obj,N=[(a,obj)]) (ho:OR g a o' [(a,obj')])
  (hs:Heap.SameBut a s.heap h') (hg:h'.get? a=some obj'):Rep g f {σ with H:=H'} {s with heap:=h'}:=by
 refine zk (h.upd u) λN₁ k1 k2 k3=>?_
 (refine qA (h1 _ k1) λobj C=>?_;subst C)
 exact k3 _ h' ho λprot F L=>L.upd (λb x hb e=>(hs.2 b hb).trans e) hg
end
end
noncomputable section
structure GOk (g:G) (mg mb:Str->Option yr):Prop where
 k:g.K.In g.base
 gl:g.base.Ns W7 mg
 bi:g.base.Ns Db mb
 nolimit:g.base.NoLimit
 globs: ∀i v,g.globs.lookup i=some v->i<g.tab.length/\(mg (g.nm i)=some v\/(mg (g.nm i)=none/\mb (g.nm i)=some v))
 tab:g.tab.Nodup
structure FOk (g:G) (f:Fx):Prop where
 kind:f.env.scope.kind= .function
 locals:f.env.locals=f.L
 globals:f.env.globals=W7
 builtins:f.env.builtins=Db
 slots:f.slots.Nodup
 slotsLt: ∀k∈f.slots,k<g.tab.length
 cells: ∀i a,f.cells.lookup i=some a->f.env.cells.lookup (g.nm i)=some a
 base:g.base.StaysIn f.prot
 hd:match f.hd with|some v=>Ctx f.prot v f.keep|none=>f.keep=[]
 frames: ∃e r,f.frames=e::r/\e.frame=f.env.frame
 fun_: ∀e∈f.frames,e.scope.kind≠.module/\∃b,e.frame=some b/\(b=f.L\/b∈f.outs.map (·.1))
structure Nm where
 tab:List Str
 names:List (Str × WD)
 slots:List Nat
noncomputable def Nm.nm (N:Nm) (i:Nat):Str:=N.tab.getD i Str.empty
noncomputable def Nm.kind (N:Nm) (i:Nat):Option WD:=N.names.lookup (N.nm i)
noncomputable def Nm.slot (N:Nm) (i:Nat):Nat:=N.slots.getD i 0
noncomputable def Nm.lt (N:Nm) (i:Nat):Bool:=BA i N.tab.length
noncomputable def Nm.isLoc (N:Nm) (i:Nat):Bool:=BA i N.slots.length && N.kind (N.slot i)==some .local && !(N.nm (N.slot i)==("__debug__":Str))
noncomputable def Nm.isCel (N:Nm) (i:Nat):Bool:=N.lt i && (N.kind i==some .cell||N.kind i==some .free) && !(N.nm i==("__debug__":Str)) && !(N.nm i==("__classdict__":Str))
noncomputable def Nm.isGlb (N:Nm) (i:Nat):Bool:=N.lt i && N.kind i==some .globalImplicit && !(N.nm i==("__debug__":Str))
noncomputable def Fx.nmOf (f:Fx) (g:G):Nm:=⟨g.tab,f.env.scope.names,f.slots⟩
theorem G.nm_inj {mg mb} (ok:GOk g mg mb) (hi:i<g.tab.length) (hj:j<g.tab.length) (e:g.nm i=g.nm j):i=j:=by
 unfold G.nm at e
 rw [We,We,yw hi,yw hj] at e
 have p:=F5.mp ok.tab
 simp only [He] at e
 rcases Nat.lt_trichotomy i j with h|h|h
 ·exact absurd e (p i j hi hj h)
 ·exact h
 ·exact absurd e.symm (p j i hj hi h)
section
variable {α β γ δ:Type} {g:G} {f:Fx} {n:Nat} {r:β->α->Prop} {r':δ->γ->Prop} {E:QE} {σ:St} {mg mb:Str->Option yr} {Q:QV}
theorem slot_of (hi:(f.nmOf g).isLoc i=true): ∃k,f.slots[i]? =some k/\g.nm k=(f.nmOf g).nm ((f.nmOf g).slot i)/\f.env.kindOf ((f.nmOf g).nm ((f.nmOf g).slot i))=some .local/\((f.nmOf g).nm ((f.nmOf g).slot i)==("__debug__":Str))=false:=by
 unfold Nm.isLoc at hi
 simp only [BI,beq_iff_eq,F2,yL] at hi
 (refine qc hi λu h3=>?_;obtain ⟨h1,h2⟩:=u)
 have e:f.slots[i]? =some (f.slots.getD i 0):=by
  have C:i<f.slots.length:=h1
  rw [We,yw C];rfl
 exact X0 _ e rfl h2 h3
theorem Rep.ns (h:Rep g f σ s): ∃m,s.heap.Ns f.L m/\jc g f.slots σ.loc m:=by
 refine ja h λm I N a b c d oo=>?_
 (refine qk a λF r C u oo=>?_;clear a;obtain ⟨_,o⟩:=F;subst C;obtain ⟨rfl,es,ep,k2,k3,k4⟩:=u)
 exact qj m (xi o es ep (c.there _ (.head _)) k2 k3 k4) d
theorem Rep.stays (h:Rep g f σ s):f.prot.StaysIn s.heap:=by
 refine ja h λm u N a b c d oo=>?_;exact c.stays
theorem Rep.base (ok:FOk g f) (h:Rep g f σ s): ∀b o,g.base.get? b=some o->s.heap.get? b=some o:=λb o e=>h.stays b o (ok.base b o e)
theorem Rep.kin (gk:GOk g mg mb) (ok:FOk g f) (h:Rep g f σ s):g.K.In s.heap:=λa o e=>h.base ok _ _ (gk.k a o e)
theorem Rep.mem (h:Rep g f σ s) (hm:(a,o)∈σ.H): ∃N₁,OR g a o N₁/\∀p∈N₁,s.heap.get? p.1=some p.2:=by
 refine xF h λm u N oo b c oo=>?_
 refine qf (b.get hm) λN₁ k1 k2=>?_
 exact qj N₁ k1 (λp hp=>c.there _ (yx _ (k2 p hp)))
theorem Rep.cell (h:Rep g f σ s) (hm:(a,.cell (some x))∈σ.H): ∃v,VR g x v/\s.heap.IsCell a (some v):=by
 (refine qf (h.mem hm) λoo u k3=>?_;obtain ⟨v,o,k1,k2,rfl⟩:=u)
 exact qj v k1 (qj o (k3 _ (.head _)) k2)
theorem Rep.list (h:Rep g f σ s) (hm:(a,.list xs)∈σ.H): ∃vs k,VRs g xs vs/\s.heap.get? a=some (Bi vs.toArray k):=by
 (refine qf (h.mem hm) λoo u k3=>?_;obtain ⟨vs,k,k1,rfl⟩:=u)
 exact qU vs k k1 (k3 _ (.head _))
theorem Rep.tup (h:Rep g f σ s) (hm:(a,.tup xs)∈σ.H): ∃vs k,VRs g xs vs/\s.heap.get? a=some {cls:= .type "tuple",data:= .seq vs.toArray k}:=by
 (refine qf (h.mem hm) λoo u k3=>?_;obtain ⟨vs,k,k1,rfl⟩:=u)
 exact qU vs k k1 (k3 _ (.head _))
theorem Rep.sdict (h:Rep g f σ s) (hm:(a,.sdict es)∈σ.H): ∃u,SR g es u/\s.heap.DictOf (strKind g.prog g.w) a u:=by
 (refine qf (h.mem hm) λoo C k3=>?_;obtain ⟨u,o,k1,k2,rfl⟩:=C)
 exact qj u k1 (Heap.dictOf_iff.mpr (qj _ (k3 _ (.head _)) k2))
theorem Rep.rng (h:Rep g f σ s) (hm:(a,.rng x y z)∈σ.H): ∃t u v,s.heap.get? a=some {cls:= .type "range",data:= .fields #[.int x t,.int y u,.int z v]}:=by
 (refine qf (h.mem hm) λoo C k3=>?_;obtain ⟨t,u,v,rfl⟩:=C)
 exact qW t u v (k3 _ (.head _))
theorem Rep.inst (h:Rep g f σ s) (hm:(a,.inst C at' kx)∈σ.H): ∃dx es k,AR g at' es/\InstAt s.heap a (kI C dx kx) C (some (Da es k)):=by
 (refine qf (h.mem hm) λoo u k3=>?_;obtain ⟨dx,es,k,k1,rfl⟩:=u)
 exact Yj dx es k k1 (JL (k3 _ (.head _)) (k3 (dx,Da es k) (.tail _ (.head _))))
theorem qz {h:W0} (e:h.get? a=some (Bi its k)):h.IsList a its:=(qK _ e rfl (qx _ rfl))
theorem ko (ok:FOk g f) (hs:f.slots[i]? =some k) (hn:g.nm k=name) (hk:f.env.kindOf name=some .local) (hl:lk σ.loc i=some x) (h:Q x σ):
  W g f n (VR g) (loadName f.env name) Q E σ:=λA s hA hs'=>by
 refine qf (hs'.ns) λm hm hL=>?_
 refine qf (hL i k x hs hl) λv hv hr=>?_
 rw [hn] at hv
 exact wpAny_loadName_local ok.kind hk (ok.locals ▸ hm) hv (qe x σ hr hs' h)
theorem Qv (ok:FOk g f) (hn:g.nm i=name) (hk:f.env.kindOf name=some .cell\/f.env.kindOf name=some .free) (hd:(name==("__classdict__":Str))=false)
  (hc:f.cells.lookup i=some a) (hm:(a,.cell (some x))∈σ.H) (h:Q x σ):W g f n (VR g) (loadName f.env name) Q E σ:=λA s hA hs'=>by
 refine qf (hs'.cell hm) λv hr hv=>?_
 have u:=ok.cells i a hc
 rw [hn] at u
 refine Or.elim hk (λhk=>?_) λhk=>?_
 ·exact wpAny_loadName_cell ok.kind hk u hv (qe x σ hr hs' h)
 ·exact wpAny_loadName_free ok.kind hk u hv (qe x σ hr hs' h) hd
theorem Qt (gk:GOk g mg mb) (ok:FOk g f) (hs:Rep g f σ s) (hn:g.nm i=name) (hk:f.env.kindOf name=some .globalImplicit) (hv:g.globs.lookup i=some v) {Q E':yr->yF->Prop} (h:Q v s):
  yP g.M A (loadName f.env name) Q E' s:=by
 have h1:=gk.globs i v hv
 rw [hn] at h1
 rw [loadName_read ok.kind hk]
 have b:=hs.base ok
 rcases h1.2 with e|⟨e1,e2⟩
 ·exact loadGlobal_global (by rw [ok.globals];exact gk.gl.keeps b) e h
 ·exact loadGlobal_builtin (by rw [ok.globals];exact gk.gl.keeps b) e1 (by rw [ok.builtins];exact gk.bi.keeps b) e2 h
theorem zU (h:W g f n (VR g) t Q E σ):W g f n (VR g) (operate vs t) Q E σ:=λA s hA hs=>DG (h A s hA hs)
theorem wm {Q:δ->St->Prop} (h:W g f n r' (k ()) Q E σ):W g f n r' (release vs ks>>=k) Q E σ:=λA s hA hs=>yo (wpAny_release (h A s hA hs))
theorem Qc {Q:Unit->St->Prop} (h:Q () σ):W g f n Eq (release vs ks) Q E σ:=λA s hA hs=>wpAny_release (qe () σ rfl hs h)
theorem wL {Q:δ->St->Prop} (h: ∀t,W g f n r' (k t) Q E σ):W g f n r' (fresh>>=k) Q E σ:=λA s hA hs=>yo (wpAny_fresh (h _ A _ hA (hs.toks _)))
theorem Rep.new (h:Rep g f σ s):Rep g f σ {s with heap:=s.heap.push o}:=by
 refine xF h λm u N a b c d=>?_
 exact xi m u N a b (c.keeps λoo oo e=>Heap.get?_push_of_some _ e) d
theorem UK (hr:VRs g xs vs) (hz:vs.length<=Be) (h: ∀a,Q (.ref a) {σ with H:=(a,.list xs)::σ.H}):W g f n (VR g) (Ff vs) Q E σ:=
 λA s hA hs=>FY (qe _ _ (.ref) (hs.push (o:= .list xs) (qU vs 0 hr rfl)) (h _)) hz
theorem Jc (hr:VRs g xs vs) (hz:vs.length<=Be) (h: ∀a,Q (.ref a) {σ with H:=(a,.tup xs)::σ.H}):W g f n (VR g) (newTuple vs) Q E σ:=
 λA s hA hs=>wpAny_newTuple (qe _ _ (.ref) (hs.push (o:= .tup xs) (qU vs 0 hr rfl)) (h _)) hz
theorem ZN {o r:yr} {Q:δ->St->Prop} (h:W g f n r' (k ()) Q E σ):W g f n r' (FA base o r>>=k) Q E σ:=
 λA s hA hs=>yo (wpAny_letTemporaryGo (h A s hA hs))
theorem xl {Q:Unit->St->Prop} (h:W g f n Eq (storeName f.env name v) Q E σ):W g f n Eq (bindName f.env name v) Q E σ:=λA s hA hs=>by
 unfold bindName
 refine yo (Wr (DA ?_))
 exact yo (yK (h A s hA hs) (λa s' h'=>DA (by (refine qB h' λx σ' u h2=>?_;clear h';subst u);exact qU x σ' rfl h2)) λoo oo e=>e)
theorem ZG {l:List Nat} (nd:l.Nodup) {i j:Nat} (h1:l[i]? =some x) (h2:l[j]? =some x):i=j:=by
 obtain ⟨a1,a2⟩:=Wb.mp h1
 obtain ⟨b1,b2⟩:=Wb.mp h2
 have p:=F5.mp nd
 rcases Nat.lt_trichotomy i j with l|l|l
 ·exact absurd (a2.trans b2.symm) (p i j a1 b1 l)
 ·exact l
 ·exact absurd (b2.trans a2.symm) (p j i b1 a1 l)
theorem jX (gk:GOk g mg mb) (ok:FOk g f) {Q:Unit->St->Prop} (hs:f.slots[i]? =some k) (hn:g.nm k=name) (hk:f.env.kindOf name=some .local) (hv:VR g x v)
  (h:Q () {σ with loc:=st σ.loc i x}):W g f n Eq (storeName f.env name v) Q E σ:=λA s hA hs'=>by
 refine ja hs' λm a0 N a b c d e=>?_
 (refine qk a λJ r I F a2=>?_;clear a;obtain ⟨_,o⟩:=J;subst I;obtain ⟨rfl,es,ep,k2,k3,k4⟩:=F)
 subst hn
 have hp:(f.env.scope.kind== .class||(f.env.scope.kind== .module && f.env.locals !=f.env.globals))=false:=by rw [ok.kind];rfl
 rw [storeName_local hk hp]
 refine wpAny_nsSet (m:=m) (ok.locals ▸ (xi o es ep (c.there _ (.head _)) k2 k3 k4)) λh' h1 h2=>(qe () _ rfl ?_ h)
 rw [ok.locals] at h1 h2
 refine xF h1 λo' X Z w1 w2 w3 w4=>?_
 refine ji _ ((f.L,o')::r) N (.cons (qa rfl (qe X Z w2 w3 w4)) a2) b (Lay.upd c (λb x hb e=>(h2.2 b hb).trans e) w1) ?_ e
 intro j q y hj hy
 by_cases C:i=j
 ·subst C
  rw [hs] at hj;obtain rfl:=Wc.inj hj
  rw [uh hy]
  exact qj v (if_pos rfl) hv
 ·rw [Z4 C] at hy
  refine qf (d j q y hj hy) λu q1 q2=>?_
  refine qj u ((if_neg λe=>C ?_).trans q1) q2
  have:=G.nm_inj gk (ok.slotsLt q (yC hj)) (ok.slotsLt k (yC hs)) e
  subst this
  exact ZG ok.slots hs hj
theorem jT (ok:FOk g f) {Q:Unit->St->Prop} (hn:g.nm i=name) (hk:f.env.kindOf name=some .cell) (hv:VR g x v)
  (hc:f.cells.lookup i=some a) (u:HU a (.cell w₀) (.cell (some x)) σ.H H') (h:Q () {σ with H:=H'}):W g f n Eq (storeName f.env name v) Q E σ:=λA s hA hs=>by
 have C:=ok.cells i a hc
 rw [hn] at C
 have k1: ∀N,OR g a (.cell w₀) N->∃(o:Obj) (z:Option yr),o.data= .cell z/\N=[(a,o)]:=λN hN=>by
  cases w₀ with
  |none=>refine qf hN λo e1 e2=>?_;exact qU o _ e1 e2
  |some _=>refine qk hN λv o oo e1 e2=>?_;exact qU o _ e1 e2
 refine qf (hs.mem u.mem) λN₁ hN hp=>?_
 (refine qB (k1 _ hN) λoc z I F=>?_;subst F)
 have hz:=hp _ (.head _)
 unfold storeName
 simp -iota only [hk,ok.kind]
 refine yo (wpAny_cellOf C ?_)
 unfold cellSet
 refine yo (HM hz ?_)
 rw [I]
 refine wpAny_update hz (qe () _ (by first|rfl|trivial) ?_ h)
 exact hs.upd1 u (λN hN=>let ⟨o,_,_,e⟩:=k1 N hN;(qx o e)) (qe v _ hv rfl rfl) (Heap.SameBut.update ..) (Heap.get?_update_self _ hz rfl)
end
end
noncomputable section
def MR (g:G):V × List V->yr × List yr->Prop:=λx v=>VR g x.1 v.1/\VRs g x.2 v.2
abbrev KWR (g:G):List (Nat × V)->List (Str × yr)->Prop:=zg λa e=>a.1<g.tab.length/\e.1=g.nm a.1/\VR g a.2 e.2
abbrev PRs (g:G):List (V × V)->List (yr × yr)->Prop:=zg λa e=>VR g a.1 e.1/\VR g a.2 e.2
noncomputable def zb (few : Bool) (fv : yr) (pos : List yr) (kw : List (Str × yr)) : Sem yr := do
  let r <- match <- keeperOf fv, false with
    | .frame, true => DW starredCall fv pos kw
    | .frame, false => if few then call fv pos kw else DW plainCall fv pos kw
    | .boundFrame, false => if few then call fv pos kw else DW callOfAMethodObject fv pos kw
    | .machine, false => call fv pos kw
    | _, _ => operate (fv :: (if false then pos.reverse else pos) ++ kw.map (·.2)) (call fv pos kw)
  holding [r] point
  pure r
def TX (g:G):V->Str->Prop
 | .sym i,t=>t=g.nm i
 | .str s,t=>t=s
 |_,_=>False
set_option genCtorIdx true in
inductive Fl where
 |next|brk|cont|ret (x:V)
def FR (g:G):Fl->Flow->Prop
 | .next,v=>v= .next
 | .brk,v=>v= .brk
 | .cont,v=>v= .cont
 | .ret x,v=>∃u,v= .ret u/\VR g x u
noncomputable abbrev QF:=Fl->St->Prop
theorem FR.next:FR g .next .next:=rfl
theorem FR.brk:FR g .brk .brk:=rfl
theorem FR.cont:FR g .cont .cont:=rfl
theorem FR.ret (h:VR g x u):FR g (.ret x) (.ret u):=(qj u rfl h)
noncomputable def P (k:Nat):Pos:=⟨k / 1000000 % 1000,k / 1000 % 1000,k / 1000000 % 1000+k / 1000000000,k % 1000⟩
noncomputable def kd (e:Expr):Nat:=[0,0,0,0,0,0,0,4,5,5,5,0,0,0,0,0,7,0,0,0,3,0,1,0,6,6,2].getD e.ctorIdx 0
structure Op (k:Nat) {ι:Type} (x:ι) (p:Prop):Prop where
 h:p
section
variable (g:G) (f:Fx) (n:Nat)
abbrev qo (op:FC) (x y:V) (Q:QV) (E:QE) (σ:St):Prop:=
 Op 0 (op,x,y) (∀a b,VR g x a->VR g y b->W g f n (VR g) (binaryOp op a b) Q E σ)
abbrev zG (op:FC) (x y:V) (Q:QV) (E:QE) (σ:St):Prop:=
 Op 1 (op,x,y) (∀a b,VR g x a->VR g y b->W g f n (VR g) (inplaceOp op a b) Q E σ)
abbrev UnP (op:UnaryOp) (x:V) (Q:QV) (E:QE) (σ:St):Prop:=
 Op 2 (op,x) (∀a,VR g x a->W g f n (VR g) (unaryOp op a) Q E σ)
abbrev qm (op:CmpOp) (x y:V) (Q:QV) (E:QE) (σ:St):Prop:=
 Op 3 (op,x,y) (∀a b,VR g x a->VR g y b->W g f n (VR g) (compareOp op a b) Q E σ)
abbrev qt (x:V) (Q:Bool->St->Prop) (E:QE) (σ:St):Prop:=
 Op 4 x (∀a,VR g x a->W g f n Eq (truthy a) Q E σ)
abbrev zT (x:V) (i:Nat) (Q:QV) (E:QE) (σ:St):Prop:=
 Op 5 (x,i) (∀a,VR g x a->W g f n (VR g) (getAttr a (g.nm i) true) Q E σ)
abbrev zr (x:V) (i:Nat) (y:V) (Q:St->Prop) (E:QE) (σ:St):Prop:=
 Op 6 (x,i,y) (∀a b,VR g x a->VR g y b->W g f n Eq (setAttr a (g.nm i) b) (λ(_:Unit)=>Q) E σ)
abbrev qG (x y : V) (Q : QV) (E : QE) (σ : St) : Prop :=
  Op 7 (x, y) (∀ a b, VR g x a -> VR g y b -> W g f n (VR g) (do let p <- getitemInPython a; match p with | true => runValue (.builtin "lifetime.subscript" ⟨[a, b], []⟩) | false => operate [a, b] (Ha a b)) Q E σ)
abbrev xR (x y:V) (Q:QV) (E:QE) (σ:St):Prop:=
 Op 8 (x,y) (∀a b,VR g x a->VR g y b->W g f n (VR g) (Ha a b) Q E σ)
abbrev zj (x y z:V) (Q:St->Prop) (E:QE) (σ:St):Prop:=
 Op 9 (x,y,z) (∀a b c,VR g x a->VR g y b->VR g z c->W g f n Eq (setItem a b c) (λ(_:Unit)=>Q) E σ)
abbrev qv (x:V) (lo hi:V) (Q:QV) (E:QE) (σ:St):Prop:=
 Op 10 (x,lo,hi) (∀a l u pos,VR g x a->VR g lo l->VR g hi u->W g f n (VR g) (DM "slice" [l,u,.none]>>=λi=>standAt pos>>=λ_=>getitemInPython a>>=λp=>operate [i,a] (Ha a i)) Q E σ)
abbrev zE (x:V) (i:Nat) (Q:V × List V->St->Prop) (E:QE) (σ:St):Prop:=
 Op 11 (x,i) (∀a pl,VR g x a->W g f n (MR g) (getMethod a (g.nm i) pl) Q E σ)
abbrev qb (x:V) (xs:List V) (ks:List (Nat × V)) (Q:QV) (E:QE) (σ:St):Prop:=
 Op 12 (x,xs,ks) (∀few a vs kw,VR g x a->VRs g xs vs->KWR g ks kw->W g f n (VR g) (zb few a vs kw) Q E σ)
abbrev jw (d:yu) (ps:List (V × V)) (Q:St->Prop) (E:QE) (σ:St):Prop:=
 Op 13 (d,ps) (∀vs,PRs g ps vs->W g f n Eq (for (k,v) in vs do dictSet d k v) (λ(_:Unit)=>Q) E σ)
abbrev Xr (x:V) (Q:QV) (E:QE) (σ:St):Prop:=
 Op 14 x (∀a,VR g x a->W g f n (VR g) (formatField a Str.empty) Q E σ)
abbrev wD (x:V) (k:Nat) (Q:List V->St->Prop) (E:QE) (σ:St):Prop:=
 Op 15 (x,k) (∀a,VR g x a->W g f n (λxs vs=>VRs g xs vs/\xs.length=k) (unpackItems a k none) Q E σ)
abbrev X4 (x:V) (E:QE) (σ:St):Prop:=
 Op 16 x (∀a,VR g x a->W g f n (FR g) (FK f.env (some (pure a)) none) (λ_ _=>False) E σ)
end
abbrev Wv (g:G) (f:Fx) (n:Nat) (e:Expr) (Q:QV) (E:QE) (σ:St):Prop:=W g f n (VR g) (eval e f.env) Q E σ
abbrev Wt (g:G) (f:Fx) (n:Nat) (e:Expr) (Q:Bool->St->Prop) (E:QE) (σ:St):Prop:=W g f n Eq (FL e f.env (eval e f.env)) Q E σ
structure EX where
 ast:Nm->Expr
 chk:Nm->Bool
 wp:G->Fx->Nat->QV->QE->St->Prop
 wt:G->Fx->Nat->(Bool->St->Prop)->QE->St->Prop
 snd: ∀{g f n mg mb},GOk g mg mb->FOk g f->chk (f.nmOf g)=true->∀{Q E σ},wp g f n Q E σ->Wv g f n (ast (f.nmOf g)) Q E σ
 sndt: ∀{g f n mg mb},GOk g mg mb->FOk g f->chk (f.nmOf g)=true->∀{Q E σ},wt g f n Q E σ->Wt g f n (ast (f.nmOf g)) Q E σ
theorem qh (h:(a && b)=true):a=true/\b=true:=Wu.mp h
section
variable {g:G} {f:Fx} {n:Nat} {mg mb:Str->Option yr} {σ:St} {E:QE}
theorem u4 {e : Expr} (h : W g f n (VR g) t (λx σ => qt g f n x Q E σ) E σ) :
    W g f n Eq (do let v <- t; standAt e.pos; holding [v] (truthy v)) Q E σ :=
  qu h λoo oo k v hv => qi (qr (k.h v hv))
@[reducible] noncomputable def EX.of (ast : Nm -> Expr) (chk : Nm -> Bool) (wp : G -> Fx -> Nat -> QV -> QE -> St -> Prop)
    (snd : ∀ {g f n mg mb}, GOk g mg mb -> FOk g f -> chk (f.nmOf g) = true -> ∀ {Q E σ}, wp g f n Q E σ -> Wv g f n (ast (f.nmOf g)) Q E σ)
    (pl : ∀ N env t, FL (ast N) env t = (do let v <- t; standAt (ast N).pos; holding [v] (truthy v))) : EX :=
  ⟨ast, chk, wp, λg f n Q E σ => wp g f n (λx σ => qt g f n x Q E σ) E σ, snd, λ{g f n mg mb} gk ok hc {Q E σ} h => by
    refine Eq.mpr (congrArg (λt => W _ _ _ Eq t _ E σ) (pl _ _ _)) ?_
    exact u4 (snd gk ok hc h)⟩
noncomputable def zA (N:Nm) (l:List EX):List Expr:=l.map (·.ast N)
noncomputable def YN (N:Nm) (l:List EX):Bool:=l.all (·.chk N)
def wEs (g:G) (f:Fx) (n:Nat):List EX->(List V->St->Prop)->QE->St->Prop
 |[],Q,E,σ=>Q [] σ
 |a::r,Q,E,σ=>a.wp g f n (λx σ=>wEs g f n r (λxs σ=>Q (x::xs) σ) E σ) E σ
def wFs (g:G) (f:Fx) (n:Nat):List EX->Str->QV->QE->St->Prop
 |[],out,Q,E,σ=>Q (.str out) σ
 |a::r,out,Q,E,σ=>a.wp g f n (λx σ=>∃t,TX g x t/\out.length+t.length<=Be/\wFs g f n r (out++t) Q E σ) E σ
def wKs (g:G) (f:Fx) (n:Nat):List (Nat × EX × Nat)->(List (Nat × V)->St->Prop)->QE->St->Prop
 |[],Q,E,σ=>Q [] σ
 |(i,a,_)::r,Q,E,σ=>a.wp g f n (λx σ=>wKs g f n r (λxs σ=>Q ((i,x)::xs) σ) E σ) E σ
def wPs (g:G) (f:Fx) (n:Nat):List (EX × EX)->(List (V × V)->St->Prop)->QE->St->Prop
 |[],Q,E,σ=>Q [] σ
 |(a,b)::r,Q,E,σ=>a.wp g f n (λx σ=>b.wp g f n (λy σ=>wPs g f n r (λps σ=>Q ((x,y)::ps) σ) E σ) E σ) E σ
def wO (g:G) (f:Fx) (n:Nat):Option EX->QV->QE->St->Prop
 |none,Q,E,σ=>Q .none σ
 |some a,Q,E,σ=>a.wp g f n Q E σ
def wBs (g:G) (f:Fx) (n:Nat) (k:Bool):List EX->QV->QE->St->Prop
 |[],_,_,_=>False
 |[a],Q,E,σ=>a.wp g f n Q E σ
 |a::r,Q,E,σ=>a.wp g f n (λx σ=>qt g f n x (λt σ=>(t=k->Q x σ)/\(t= !k->wBs g f n k r Q E σ)) E σ) E σ
def wTs (g:G) (f:Fx) (n:Nat) (k:Bool):List EX->(Bool->St->Prop)->QE->St->Prop
 |[],Q,E,σ=>Q (!k) σ
 |a::r,Q,E,σ=>a.wt g f n (λt σ=>(t=k->Q k σ)/\(t= !k->wTs g f n k r Q E σ)) E σ
noncomputable def bop (k:Bool):BoolOp:=if k then .Or else .And
noncomputable def xV (N:Nm) (l:List (Nat × EX × Nat)):List Keyword:=l.map λk=>⟨some (N.nm k.1),k.2.1.ast N,P k.2.2⟩
noncomputable def vY (N:Nm) (l:List (Nat × EX × Nat)):Bool:=l.all λk=>N.lt k.1 && k.2.1.chk N
theorem j9 (h:(kd e !=1)=true):W4 (e::r) env=(false,eval e env)::W4 r env:=by
 cases e<;>first|rfl|cases h
theorem xn (h:(kd o !=7)=true):attributeBase o attr env t=t:=by
 cases o<;>first|rfl|cases h
theorem w6 (h:(kd s !=2)=true):subscripted s p o i=(match p with|true=>runValue (.builtin "lifetime.subscript" ⟨[o,i],[]⟩)|false=>operate [o,i] (Ha o i)):=by
 cases s<;>first|(cases p<;>rfl)|cases h
theorem xY (h:(ap.endLine==p.line)=true):methodCallPos few o env ap p=pure p:=by
 unfold methodCallPos
 rw [h,Hf]
 rfl
theorem kV (h : (kd fn != 3) = true) :
    eval (.Call fn as ks p) env = (do DN p (<- eval fn env) [] (Dc p (W4 as env)) (B2 p (W8 ks env))) := by
  cases fn <;> first | rfl | cases h
theorem jQ {Q:QV} (hs:(args.any (·.1)||kws.any (·.1.isNone))=false)
  (h:W g f n (λ(x:List yr × List (Str × yr)) (a:Args)=>x=(a.pos,a.kw)) (evalArgs m true args kws) (λx σ=>∀u,W g f n (VR g) (zb u m (fst++x.1) x.2) Q E σ) E σ):
  W g f n (VR g) (DN p m fst args kws) Q E σ:=by
 unfold DN
 refine wV (qr (xG h (λx σ h=>?_) λoo oo e=>e))
 rintro v rfl
 refine qi ?_
 dsimp only
 rw [hs]
 have:=h (decide (args.length+2*kws.length>30))
 unfold zb at this
 simp -iota only [decide_eq_true_eq] at this
 exact this
theorem js:(B2 p (W8 (xV N ks) env)).any (·.1.isNone)=false/\(B2 p (W8 (xV N ks) env)).all (·.1.isSome)=true/\(W8 (xV N ks) env).length=ks.length:=by
 induction ks with
 |nil=>
  exact (qy rfl rfl rfl)
 |cons k t ih=>
  exact by
   refine qy ?_ ?_ ?_
   ·show (false||(B2 p (W8 (xV N t) env)).any (·.1.isNone))=false
    rw [ih.1];rfl
   ·show (true && (B2 p (W8 (xV N t) env)).all (·.1.isSome))=true
    rw [ih.2.1];rfl
   ·show (W8 (xV N t) env).length+1=t.length+1
    rw [ih.2.2]
noncomputable def Xx (N:Nm) (l:List EX):Bool:=l.all λa=>kd (a.ast N) !=1 && a.chk N
theorem zO:Xx N es=true->(Dc p (W4 (zA N es) env)).any (·.1)=false/\(W4 (zA N es) env).length=es.length:=by
 induction es with
 |nil=>
  exact @λh=>(qa rfl rfl)
 |cons a r ih=>
  exact @λh=>by
   refine qc (qh h) λh1 h2=>?_
   have ih:=ih h2
   show (Dc p (W4 (a.ast N::zA N r) env)).any (·.1)=false/\(W4 (a.ast N::zA N r) env).length=_
   rw [j9 (qh h1).1]
   refine qa ?_ ?_
   ·show (false||(Dc p (W4 (zA N r) env)).any (·.1))=false
    rw [ih.1];rfl
   ·show (W4 (zA N r) env).length+1=r.length+1
    rw [ih.2]
theorem sEs (gk : GOk g mg mb) (ok : FOk g f) (p : Pos) (es : List EX) : Xx (f.nmOf g) es = true -> ∀ {Q : List V -> St -> Prop} {E : QE} {σ : St}, wEs g f n es Q E σ ->
    W g f n (λys vs => VRs g ys vs /\ vs.length = es.length) (spliced (Dc p (W4 (zA (f.nmOf g) es) f.env))) Q E σ := by
  induction es with
  | nil =>
    exact @λh Q E σ w => qI (qa zg.nil rfl) w
  | cons a r ih =>
    exact @λh Q E σ w => by
      refine qc (qh h) λh1 h2 =>?_
      show W g f n _ (spliced (Dc p (W4 (a.ast _ :: zA _ r) f.env))) Q E σ
      rw [j9 (qh h1).1]
      show W g f n _ (do
        let v <- eval (a.ast _) f.env
        let here <- pure [v]
        return here ++ (<- holding here (spliced (Dc p (W4 (zA _ r) f.env))))) Q E σ
      refine qu (a.snd gk ok (qh h1).2 w) λx σ h' v hv => j5 ?_
      refine qu (qr (ih h2 h')) λys σ h' vs hvs =>?_
      exact qI (qa (.cons hv hvs.1) (by simp [hvs.2])) h'
theorem U5 {Q:QV} (hy: ∀t,VR g y (.str x t)) (h:Q y σ):W g f n (VR g) (mkText x) Q E σ:=wL λt=>qI (hy t) h
theorem vH {Q:QV} (hz:x.length<=Be) (h:Q (.str x) σ):W g f n (VR g) (mkStr x) Q E σ:=by
 unfold mkStr
 rw [if_neg (by exact (BK.mpr hz))]
 exact wL λt=>qI .str h
theorem TX.inv (h:TX g x t) (hv:VR g x v): ∃k,v= .str t k:=by
 cases x<;>first|exact h.elim|skip
 ·(refine qc hv λoo C=>?_;refine qA C λk F=>?_;clear hv;subst F);cases h;exact qx k rfl
 ·(refine qA hv λk u=>?_;clear hv;subst u);cases h;exact qx k rfl
theorem sFs (gk : GOk g mg mb) (ok : FOk g f) (es : List EX) : YN (f.nmOf g) es = true -> ∀ {out : Str} {Q : QV} {E : QE} {σ : St}, out.length <= Be -> wFs g f n es out Q E σ -> W g f n (VR g) (joinParts out (D9 (zA (f.nmOf g) es) f.env)) Q E σ := by
  induction es with
  | nil =>
    exact @λh out Q E σ z w => vH z w
  | cons a r ih =>
    exact @λh out Q E σ z w => by
      refine qc (qh h) λh1 h2 =>?_
      show W g f n (VR g) (do
        let some s <- asStr? (<- eval (a.ast _) f.env) | unsupported "internal:joinedstr"
        if out.length + s.length > Be then unsupported "str:memory"
        joinParts (out ++ s) (D9 (zA _ r) f.env)) Q E σ
      refine qu (a.snd gk ok h1 w) λx σ h' v hv =>?_
      refine zk h' λu k1 k2 k3 =>?_
      (refine qA (k1.inv hv) λk z43 =>?_; subst z43)
      show W g f n (VR g) (if out.length + u.length > Be then unsupported "str:memory" >>= λoo => joinParts (out ++ u) (D9 (zA _ r) f.env) else joinParts (out ++ u) (D9 (zA _ r) f.env)) Q E σ
      rw [if_neg (by exact (BK.mpr k2))]
      exact ih h2 (by rw [Str.length_append]; exact k2) k3
theorem sKs (gk : GOk g mg mb) (ok : FOk g f) (p : Pos) (ks : List (Nat × EX × Nat)) : vY (f.nmOf g) ks = true -> ∀ {Q : List (Nat × V) -> St -> Prop} {E : QE} {σ : St}, wKs g f n ks Q E σ ->
    W g f n (λkvs vs => KWR g kvs (((B2 p (W8 (xV (f.nmOf g) ks) f.env)).filterMap (·.1)).zip vs)) (evalAll ((B2 p (W8 (xV (f.nmOf g) ks) f.env)).map (·.2))) Q E σ := by
  induction ks with
  | nil =>
    exact @λh Q E σ w => qI (r := λkvs vs => KWR g kvs _) zg.nil w
  | cons hd t ih =>
    obtain ⟨i, a, q⟩ := hd
    exact @λh Q E σ w => by
      refine qc (qh h) λh1 h2 =>?_
      refine qc (qh h1) λh1 h3 =>?_
      show W g f n _ (do
        let v <- (do let v <- eval (a.ast _) f.env; standAt p; pure v)
        return v :: (<- holding [v] (evalAll ((B2 p (W8 (xV _ t) f.env)).map (·.2))))) Q E σ
      simp only [bind_assoc, pure_bind]
      refine qu (a.snd gk ok h3 w) λy σ h' v hv => qi ?_
      refine qu (qr (ih h2 h')) λys σ h' vs hvs =>?_
      exact qI (r := λkvs vs => KWR g kvs _) (zg.cons (x := (i, y)) (v := (g.nm i, v)) (qy (yL.mp h1) rfl hv) hvs) h'
theorem JQ (gk:GOk g mg mb) (ok:FOk g f) (h1:Xx (f.nmOf g) as=true) (h2:vY (f.nmOf g) ks=true)
  (m:yr) {Q:List V->List (Nat × V)->St->Prop} (w:wEs g f n as (λys σ=>wKs g f n ks (λu σ=>Q ys u σ) E σ) E σ):
  W g f n (λ(x:List yr × List (Str × yr)) (a:Args)=>x=(a.pos,a.kw)) (evalArgs m true (Dc p (W4 (zA (f.nmOf g) as) f.env)) (B2 p (W8 (xV (f.nmOf g) ks) f.env))) (λx σ=>∃ys u,VRs g ys x.1/\KWR g u x.2/\Q ys u σ) E σ:=by
 have hk:=(js (N:=f.nmOf g) (p:=p) (env:=f.env) (ks:=ks)).2.1
 have w':=sEs gk ok p as h1 w
 have hs:=(zO (p:=p) (env:=f.env) h1).1
 unfold evalArgs
 rcases hx:Dc p (W4 (zA (f.nmOf g) as) f.env) with _|⟨⟨_|_,t⟩,r⟩
 case cons.true=>rw [hx] at hs;cases hs
 all_goals
  rw [hx] at w'
  refine qu w' λys σ h vs C=>j5 ?_
  refine qr ?_
  rw [if_pos hk]
  refine qu (sKs gk ok p ks h2 h) λu σ h us F=>j5 ?_
  exact qI (r:=λ(x:List yr × List (Str × yr)) (a:Args)=>x=(a.pos,a.kw)) rfl (qe ys u C.1 F h)
end
end
noncomputable section
section
variable {g:G} {f:Fx} {n:Nat} {mg mb:Str->Option yr} {σ:St} {E:QE} {Q:QV}
theorem Jf (hd : (x == ("__debug__" : Str)) = false) (h : W g f n (VR g) (loadName f.env x) Q E σ) : Wv g f n (.Name x p) Q E σ := by
  show W g f n (VR g) (do standAt p; if (x == ("__debug__" : Str)) = true then debugConstant else loadName f.env x) Q E σ
  refine qi ?_
  rw [hd]
  exact h
theorem not_true (h:(!b)=true):b=false:=F2 _|>.mp h
end
namespace E
@[reducible] noncomputable def loc (i p:Nat):EX:= .of (λN=> .Name (N.nm (N.slot i)) (P p)) (λN=>N.isLoc i)
 (λg f n Q E σ=>match lk σ.loc i with|some x=>Q x σ|none=>False)
 (λ{g f n mg mb} gk ok hc {Q E σ} h=>by
  refine Qn (slot_of hc) λk h1 h2 h3 h4=>?_
  cases hl:lk σ.loc i with
  |none=>rw [hl] at h;exact h.elim
  |some x=>rw [hl] at h;exact Jf h4 (ko ok h1 h2 h3 hl h)) λoo oo oo=>rfl
@[reducible] noncomputable def cel (i p:Nat):EX:= .of (λN=> .Name (N.nm i) (P p)) (λN=>N.isCel i)
 (λg f n Q E σ=>∃a x,f.cells.lookup i=some a/\(a,.cell (some x))∈σ.H/\Q x σ)
 (λ{g f n mg mb} gk ok hc {Q E σ} ⟨a,y,k1,k2,k3⟩=>by
  refine qc (qh hc) λh1 h4=>?_
  refine qc (qh h1) λh1 h3=>?_
  refine qc (qh h1) λh1 h2=>?_
  exact Jf (not_true h3) (Qv ok rfl ((BF.mp h2).imp eq_of_beq eq_of_beq) (not_true h4) k1 k2 k3)) λoo oo oo=>rfl
@[reducible] noncomputable def glb (i p:Nat):EX:= .of (λN=> .Name (N.nm i) (P p)) (λN=>N.isGlb i)
 (λg f n Q E σ=>match g.globs.lookup i with|some v=>Q (.fix v) σ|none=>False)
 (λ{g f n mg mb} gk ok hc {Q E σ} h=>by
  refine qc (qh hc) λh1 h3=>?_
  refine qc (qh h1) λh1 h2=>?_
  cases hl:g.globs.lookup i with
  |none=>rw [hl] at h;exact h.elim
  |some x=>rw [hl] at h;exact Jf (not_true h3) λA s hA hs=>Qt gk ok hs rfl (eq_of_beq h2) hl ⟨_,σ,.fix,hs,h⟩) λoo oo oo=>rfl
@[reducible] noncomputable def none (p:Nat):EX:= .of (λN=> .Constant .none 0 (P p)) (λN=>true) (λg f n Q E σ=>Q .none σ) (λ{g f n mg mb} _ _ _ {Q E σ} h=>qI .none h) λ_ _ _=>rfl
@[reducible] noncomputable def bool (b:Bool) (p:Nat):EX:= .of (λN=> .Constant (.bool b) 0 (P p)) (λN=>true) (λg f n Q E σ=>Q (.bool b) σ) (λ{g f n mg mb} _ _ _ {Q E σ} h=>qI .bool h) λ_ _ _=>rfl
@[reducible] noncomputable def int (i:Int) (p:Nat):EX:= .of (λN=> .Constant (.int i) 0 (P p)) (λN=>true) (λg f n Q E σ=>Q (.int i) σ) (λ{g f n mg mb} _ _ _ {Q E σ} h=>wL λ_=>qI .int h) λ_ _ _=>rfl
@[reducible] noncomputable def sym (i p:Nat):EX:= .of (λN=> .Constant (.str (N.nm i)) 0 (P p)) (λN=>N.lt i) (λg f n Q E σ=>Q (.sym i) σ) (λ{g f n mg mb} _ _ hc {Q E σ} h=>U5 (λ_=> .sym (yL.mp hc)) h) λ_ _ _=>rfl
@[reducible] noncomputable def byt (b:List UInt8) (p:Nat):EX:= .of (λN=> .Constant (.bytes b) 0 (P p)) (λN=>true) (λg f n Q E σ=>Q (.bytes b) σ) (λ{g f n mg mb} _ _ _ {Q E σ} h=>wL λ_=>qI .bytes h) λ_ _ _=>rfl
@[reducible] noncomputable def bin (op:FC) (a b:EX) (p:Nat):EX:= .of (λN=> .BinOp (a.ast N) op (b.ast N) (P p)) (λN=>a.chk N && b.chk N)
 (λg f n Q E σ=>a.wp g f n (λx σ=>b.wp g f n (λy σ=>qo g f n op x y Q E σ) E σ) E σ)
 (λ{g f n mg mb} gk ok hc {Q E σ} w=>by
  refine qc (qh hc) λh1 h2=>?_
  refine qu (a.snd gk ok h1 w) λx σ h v hv=>?_
  refine qu (qr (b.snd gk ok h2 h)) λy σ h u hu=>?_
  exact qi (zU (h.h v u hv hu))) λoo oo oo=>rfl
@[reducible] noncomputable def un (op:UnaryOp) (a:EX) (p:Nat) (hop:op≠.Not:=by decide):EX:= .of (λN=> .UnaryOp op (a.ast N) (P p)) a.chk
 (λg f n Q E σ=>a.wp g f n (λx σ=>UnP g f n op x Q E σ) E σ)
 (λ{g f n mg mb} gk ok hc {Q E σ} w=>qu (a.snd gk ok hc w) λx σ h v hv=>qi (qr (h.h v hv)))
 (λoo oo oo=>by cases op<;>first|rfl|exact (hop rfl).elim)
@[reducible] noncomputable def not (a:EX) (p:Nat):EX:=⟨λN=> .UnaryOp .Not (a.ast N) (P p),a.chk,λg f n Q E σ=>a.wp g f n (λx σ=>UnP g f n .Not x Q E σ) E σ,
 λg f n Q E σ=>a.wt g f n (λb σ=>Q (!b) σ) E σ,
 λ{g f n mg mb} gk ok hc {Q E σ} w=>qu (a.snd gk ok hc w) λx σ h v hv=>qi (qr (h.h v hv)),
 λ{g f n mg mb} gk ok hc {Q E σ} w=>qu (a.sndt gk ok hc w) λx σ h v hv=>by subst hv;exact qI rfl h⟩
@[reducible] noncomputable def attr (a:EX) (i p:Nat):EX:= .of (λN=> .Attribute (a.ast N) (N.nm i) (P p)) (λN=>N.lt i && kd (a.ast N) !=7 && a.chk N)
 (λg f n Q E σ=>a.wp g f n (λx σ=>zT g f n x i Q E σ) E σ)
 (λ{g f n mg mb} gk ok hc {Q E σ} w=>by
  refine qc (qh hc) λh1 h3=>?_
  refine qc (qh h1) λh1 h2=>?_
  show W g f n (VR g) (eval (.Attribute (a.ast _) (Nm.nm _ i) (P p)) f.env) Q E σ
  rw [arm_eval_Attribute,xn h2]
  refine qu (a.snd gk ok h3 w) λx σ h v hv=>qi ?_
  exact qu (qr (h.h v hv)) λy σ h u hu=>ZN (qI hu h)) λoo oo oo=>rfl
theorem vA {r:β->α->Prop} {r':δ->γ->Prop} {m:Sem ι} {X:ι->Sem α} {j:α->Sem γ} {Q:δ->St->Prop}
  (h:W g f n r (m>>=X) (λx σ'=>∀v,r x v->W g f n r' (j v) Q E σ') E σ):W g f n r' (m>>=λp=>X p>>=j) Q E σ:=by
 rw [<- bind_assoc]
 exact wV h
theorem W_hbind {r':δ->γ->Prop} {m:Sem α} {k:α->Sem γ} {Q:δ->St->Prop} (h:W g f n r' (m>>=k) Q E σ):W g f n r' (holding vs m>>=k) Q E σ:=λA s hA hs Γ p hΓ=>by
 have:=h A s hA hs Γ p hΓ
 rw [Sem.wp_bind'] at this |-
 rw [Sem.wp_holding]
 exact this
@[reducible] noncomputable def sub (a b:EX) (p:Nat):EX:= .of (λN=> .Subscript (a.ast N) (b.ast N) (P p)) (λN=>kd (b.ast N) !=2 && a.chk N && b.chk N)
 (λg f n Q E σ=>a.wp g f n (λx σ=>b.wp g f n (λy σ=>qG g f n x y Q E σ) E σ) E σ)
 (λ{g f n mg mb} gk ok hc {Q E σ} w=>by
  refine qc (qh hc) λh1 h3=>?_
  refine qc (qh h1) λh1 h2=>?_
  show W g f n (VR g) (eval (.Subscript (a.ast _) (b.ast _) (P p)) f.env) Q E σ
  rw [arm_eval_Subscript]
  refine qu (a.snd gk ok h2 w) λx σ h v hv=>?_
  refine qu (qr (b.snd gk ok h3 h)) λy σ h u hu=>qi ?_
  have k:=h.h v u hv hu
  simp only [w6 h1]
  refine vA (xG k (λz σ h t ht=>?_) λoo oo e=>e)
  exact ZN (qI ht h)) λoo oo oo=>rfl
noncomputable def ux (N:Nm):Option EX->Option Expr
 | .none=> .none
 | .some a=> .some (a.ast N)
noncomputable def u5 (N:Nm):Option EX->Bool
 | .none=>true
 | .some a=>a.chk N
theorem sO {g f n mg mb} (gk:GOk g mg mb) (ok:FOk g f): ∀(o:Option EX),u5 (f.nmOf g) o=true->∀{Q:QV} {E:QE} {σ:St},wO g f n o Q E σ->W g f n (VR g) (valueOrNone (evalOpt (ux (f.nmOf g) o) f.env)) Q E σ
 | .none,h,Q,E,σ,w=>qI .none w
 | .some a,h,Q,E,σ,w=>a.snd gk ok h w
@[reducible] noncomputable def slc (a:EX) (lo hi:Option EX) (p q:Nat):EX:= .of (λN=> .Subscript (a.ast N) (.Slice (ux N lo) (ux N hi) .none (P q)) (P p)) (λN=>a.chk N && u5 N lo && u5 N hi)
 (λg f n Q E σ=>a.wp g f n (λx σ=>wO g f n lo (λl σ=>wO g f n hi (λu σ=>qv g f n x l u Q E σ) E σ) E σ) E σ)
 (λ{g f n mg mb} gk ok hc {Q E σ} w=>by
  refine qc (qh hc) λh1 h3=>?_
  refine qc (qh h1) λh1 h2=>?_
  show W g f n (VR g) (eval (.Subscript (a.ast _) (.Slice _ _ .none (P q)) (P p)) f.env) Q E σ
  rw [arm_eval_Subscript]
  refine qu (a.snd gk ok h1 w) λx σ h v hv=>?_
  refine W_hbind ?_
  rw [arm_eval_Slice]
  simp only [bind_assoc]
  refine qu (sO gk ok lo h2 h) λy σ h u hu=>?_
  refine qu (qr (sO gk ok hi h3 h)) λz σ h t ht=>?_
  refine W_hbind ?_
  show W g f n (VR g) (DM "slice" [u,t,.none]>>=λi=>standAt (P p)>>=λoo=>getitemInPython v>>=λq=>operate [i,v] (Ha v i)>>=λr=>FA _ v r>>=λoo=>pure r) Q E σ
  have e1: ∀l,(DM "slice" [u,t,.none]>>=λi=>standAt (P p)>>=λoo=>getitemInPython v>>=λq=>operate [i,v] (Ha v i)>>=λr=>FA l v r>>=λoo=>pure r)=
   ((DM "slice" [u,t,.none]>>=λi=>standAt (P p)>>=λoo=>getitemInPython v>>=λq=>operate [i,v] (Ha v i))>>=λr=>FA l v r>>=λoo=>pure r):=λl=>by simp only [bind_assoc]
  rw [e1]
  exact qu (h.h v u t (P p) hv hu ht) λz σ h t ht=>ZN (qI ht h)) λoo oo oo=>rfl
@[reducible] noncomputable def list (es:List EX) (p:Nat):EX:= .of (λN=> .List (zA N es) (P p)) (λN=>WQ es.length 1000 && Xx N es)
 (λg f n Q E σ=>wEs g f n es (λxs σ=>∀a,Q (.ref a) {σ with H:=(a,.list xs)::σ.H}) E σ)
 (λ{g f n mg mb} gk ok hc {Q E σ} w=>by
  refine qc (qh hc) λh1 h2=>?_
  show W g f n (VR g) (eval (.List (zA _ es) (P p)) f.env) Q E σ
  rw [arm_eval_List]
  refine qi (qu (sEs gk ok _ es h2 w) λys σ h' vs hvs=>?_)
  refine UK hvs.1 ?_ h'
  rw [hvs.2,Wp];have:=HN.mp h1;(first|lia|omega)) λoo oo oo=>rfl
@[reducible] noncomputable def tup (es:List EX) (k p:Nat):EX:= .of (λN=> .Tuple (zA N es) k (P p)) (λN=>WQ es.length 1000 && Xx N es)
 (λg f n Q E σ=>wEs g f n es (λxs σ=>∀a,Q (.ref a) {σ with H:=(a,.tup xs)::σ.H}) E σ)
 (λ{g f n mg mb} gk ok hc {Q E σ} w=>by
  refine qc (qh hc) λh1 h2=>?_
  show W g f n (VR g) (eval (.Tuple (zA _ es) k (P p)) f.env) Q E σ
  rw [arm_eval_Tuple]
  refine qi (qu (sEs gk ok _ es h2 w) λys σ h' vs hvs=>?_)
  refine Jc hvs.1 ?_ h'
  rw [hvs.2,Wp];have:=HN.mp h1;(first|lia|omega)) λoo oo oo=>rfl
@[reducible] noncomputable def ite (c t e:EX) (p:Nat):EX:=⟨λN=> .IfExp (c.ast N) (t.ast N) (e.ast N) (P p),λN=>c.chk N && t.chk N && e.chk N,
 λg f n Q E σ=>c.wt g f n (λb σ=>(b=true->t.wp g f n Q E σ)/\(b=false->e.wp g f n Q E σ)) E σ,
 λg f n Q E σ=>c.wt g f n (λb σ=>(b=true->t.wt g f n Q E σ)/\(b=false->e.wt g f n Q E σ)) E σ,
 λ{g f n mg mb} gk ok hc {Q E σ} w=>by
  refine qc (qh hc) λh1 h3=>?_
  refine qc (qh h1) λh1 h2=>?_
  refine qu (c.sndt gk ok h1 w) λb σ h v hv=>?_
  subst hv
  cases b with
  |true=>exact t.snd gk ok h2 (h.1 rfl)
  |false=>exact e.snd gk ok h3 (h.2 rfl),
 λ{g f n mg mb} gk ok hc {Q E σ} w=>by
  refine qc (qh hc) λh1 h3=>?_
  refine qc (qh h1) λh1 h2=>?_
  refine qu (c.sndt gk ok h1 w) λb σ h v hv=>?_
  subst hv
  cases b with
  |true=>exact t.sndt gk ok h2 (h.1 rfl)
  |false=>exact e.sndt gk ok h3 (h.2 rfl)⟩
theorem sBs {g f n mg mb} (gk:GOk g mg mb) (ok:FOk g f) (p:Pos) (k:Bool) (l:List EX):YN (f.nmOf g) l=true->∀{Q:QV} {E:QE} {σ:St},wBs g f n k l Q E σ->W g f n (VR g) (boolOp p (bop k) (D9 (zA (f.nmOf g) l) f.env)) Q E σ:=by
 induction l with
 |nil=>
  exact @λoo oo oo oo w=>w.elim
 |cons a r ih=>
  cases r with
  |nil=>exact @λh Q E σ w=>a.snd gk ok (qh h).1 w
  |cons b r=>
   exact @λh Q E σ w=>by
    refine qu (a.snd gk ok (qh h).1 w) λx σ h' v hv=>qi ?_
    refine qu (qr (h'.h v hv)) λt σ u t' ht=>?_
    subst ht
    have ih:= @ih (qh h).2 Q E σ
    cases k<;>cases t<;>first|exact qI hv (u.1 rfl)|exact ih (u.2 rfl)
theorem sTs {g f n mg mb} (gk:GOk g mg mb) (ok:FOk g f) (k:Bool) (l:List EX):YN (f.nmOf g) l=true->∀{Q:Bool->St->Prop} {E:QE} {σ:St},wTs g f n k l Q E σ->W g f n Eq (allTrue (bop k) (zA (f.nmOf g) l) f.env) Q E σ:=by
 induction l with
 |nil=>
  exact @λoo oo oo oo w=>by cases k<;>exact qI rfl w
 |cons a r ih=>
  exact @λh Q E σ w=>by
   refine qu (a.sndt gk ok (qh h).1 w) λt σ h' v hv=>?_
   subst hv
   have ih:= @ih (qh h).2 Q E σ
   cases k<;>cases t<;>first|exact qI rfl (h'.1 rfl)|exact ih (h'.2 rfl)
@[reducible] noncomputable def bo (k:Bool) (es:List EX) (p:Nat):EX:=⟨λN=> .BoolOp (bop k) (zA N es) (P p),λN=>YN N es,λg f n Q E σ=>wBs g f n k es Q E σ,λg f n Q E σ=>wTs g f n k es Q E σ,
 λ{g f n mg mb} gk ok hc {Q E σ} w=>sBs gk ok (P p) k es hc w,λ{g f n mg mb} gk ok hc {Q E σ} w=>sTs gk ok k es hc w⟩
@[reducible] noncomputable def cmp (op : CmpOp) (a b : EX) (p : Nat) : EX := ⟨λN => .Compare (a.ast N) [op] [b.ast N] (P p), λN => !lastMarks [op] [b.ast N] && a.chk N && b.chk N,
  λg f n Q E σ => a.wp g f n (λx σ => b.wp g f n (λy σ => qm g f n op x y Q E σ) E σ) E σ,
  λg f n Q E σ => a.wp g f n (λx σ => b.wp g f n (λy σ => qm g f n op x y (λr σ => qt g f n r Q E σ) E σ) E σ) E σ,
  λ{g f n mg mb} gk ok hc {Q E σ} w => by
    refine qc (qh hc) λh1 h3 =>?_
    refine qc (qh h1) λh1 h2 =>?_
    show W g f n (VR g) (eval (.Compare (a.ast _) [op] [b.ast _] (P p)) f.env) Q E σ
    rw [arm_eval_Compare, DD _ _ _ (not_true h1)]
    refine qu (a.snd gk ok h2 w) λx σ h v hv =>?_
    show W g f n (VR g) (do
      let rv <- holding [v] (eval (b.ast _) f.env)
      standAt (P p)
      operate [v, rv] (compareOp op v rv)) Q E σ
    exact qu (qr (b.snd gk ok h3 h)) λy σ h u hu => qi (zU (h.h v u hv hu)),
  λ{g f n mg mb} gk ok hc {Q E σ} w => by
    refine qc (qh hc) λh1 h3 =>?_
    refine qc (qh h1) λh1 h2 =>?_
    show W g f n Eq (do testChain (P p) (<- eval (a.ast _) f.env) [op] (markedEach [op] [b.ast _] (D9 [b.ast _] f.env))) Q E σ
    rw [DD _ _ _ (not_true h1)]
    refine qu (a.snd gk ok h2 w) λx σ h v hv =>?_
    show W g f n Eq (do
      let rv <- holding [v] (eval (b.ast _) f.env)
      standAt (P p)
      let c <- operate [v, rv] (compareOp op v rv)
      holding [c] (truthy c)) Q E σ
    refine qu (qr (b.snd gk ok h3 h)) λy σ h u hu => qi ?_
    exact qu (zU (h.h v u hv hu)) λz σ h t ht => qr (h.h t ht)⟩
@[reducible] noncomputable def cmp2 (o₁ o₂ : CmpOp) (a b c : EX) (p : Nat) : EX := ⟨λN => .Compare (a.ast N) [o₁, o₂] [b.ast N, c.ast N] (P p), λN => !lastMarks [o₁, o₂] [b.ast N, c.ast N] && a.chk N && b.chk N && c.chk N,
  λg f n Q E σ => a.wp g f n (λx σ => b.wp g f n (λy σ => qm g f n o₁ x y (λr σ => qt g f n r (λt σ =>
      (t = true -> c.wp g f n (λz σ => qm g f n o₂ y z Q E σ) E σ) /\ (t = false -> Q r σ)) E σ) E σ) E σ) E σ,
  λg f n Q E σ => a.wp g f n (λx σ => b.wp g f n (λy σ => qm g f n o₁ x y (λr σ => qt g f n r (λt σ =>
      (t = true -> c.wp g f n (λz σ => qm g f n o₂ y z (λr σ => qt g f n r Q E σ) E σ) E σ) /\ (t = false -> Q false σ)) E σ) E σ) E σ) E σ,
  λ{g f n mg mb} gk ok hc {Q E σ} w => by
    refine qc (qh hc) λh1 h4 =>?_
    refine qc (qh h1) λh1 h3 =>?_
    refine qc (qh h1) λh1 h2 =>?_
    show W g f n (VR g) (eval (.Compare (a.ast _) [o₁, o₂] [b.ast _, c.ast _] (P p)) f.env) Q E σ
    rw [arm_eval_Compare, DD _ _ _ (not_true h1)]
    refine qu (a.snd gk ok h2 w) λx σ h v hv =>?_
    show W g f n (VR g) (do
      let rv <- holding [v] (eval (b.ast _) f.env)
      standAt (P p)
      let c' <- holding [v, rv] (compareOp o₁ v rv)
      release [v, rv] [c']
      if <- holding [c', rv] (truthy c') then (do
        let rv' <- holding [rv] (eval (c.ast _) f.env)
        standAt (P p)
        operate [rv, rv'] (compareOp o₂ rv rv')) else pure c') Q E σ
    refine qu (qr (b.snd gk ok h3 h)) λy σ h u hu => qi ?_
    refine qu (qr (h.h v u hv hu)) λz σ h t ht => wm ?_
    refine qu (qr (h.h t ht)) λq σ h t' ht' =>?_
    subst ht'
    cases q with
    | true => exact qu (qr (c.snd gk ok h4 (h.1 rfl))) λy σ h u' hu' => qi (zU (h.h u u' hu hu'))
    | false => exact qI ht (h.2 rfl),
  λ{g f n mg mb} gk ok hc {Q E σ} w => by
    refine qc (qh hc) λh1 h4 =>?_
    refine qc (qh h1) λh1 h3 =>?_
    refine qc (qh h1) λh1 h2 =>?_
    show W g f n Eq (do testChain (P p) (<- eval (a.ast _) f.env) [o₁, o₂] (markedEach [o₁, o₂] [b.ast _, c.ast _] (D9 [b.ast _, c.ast _] f.env))) Q E σ
    rw [DD _ _ _ (not_true h1)]
    refine qu (a.snd gk ok h2 w) λx σ h v hv =>?_
    show W g f n Eq (do
      let rv <- holding [v] (eval (b.ast _) f.env)
      standAt (P p)
      let c' <- holding [v, rv] (compareOp o₁ v rv)
      release [v, rv] [c']
      if <- holding [c', rv] (truthy c') then (do
        let rv' <- holding [rv] (eval (c.ast _) f.env)
        standAt (P p)
        let c' <- operate [rv, rv'] (compareOp o₂ rv rv')
        holding [c'] (truthy c')) else pure false) Q E σ
    refine qu (qr (b.snd gk ok h3 h)) λy σ h u hu => qi ?_
    refine qu (qr (h.h v u hv hu)) λz σ h t ht => wm ?_
    refine qu (qr (h.h t ht)) λq σ h t' ht' =>?_
    subst ht'
    cases q with
    | true =>
      refine qu (qr (c.snd gk ok h4 (h.1 rfl))) λy σ h u' hu' => qi ?_
      exact qu (zU (h.h u u' hu hu')) λz σ h t ht => qr (h.h t ht)
    | false => exact qI rfl (h.2 rfl)⟩
@[reducible] noncomputable def call (fn:EX) (as:List EX) (ks:List (Nat × EX × Nat)) (p:Nat):EX:= .of (λN=> .Call (fn.ast N) (zA N as) (xV N ks) (P p)) (λN=>kd (fn.ast N) !=3 && fn.chk N && Xx N as && vY N ks)
 (λg f n Q E σ=>fn.wp g f n (λx σ=>wEs g f n as (λxs σ=>wKs g f n ks (λkvs σ=>qb g f n x xs kvs Q E σ) E σ) E σ) E σ)
 (λ{g f n mg mb} gk ok hc {Q E σ} w=>by
  refine qc (qh hc) λh1 h4=>?_
  refine qc (qh h1) λh1 h3=>?_
  refine qc (qh h1) λh1 h2=>?_
  show W g f n (VR g) (eval (.Call (fn.ast _) (zA _ as) (xV _ ks) (P p)) f.env) Q E σ
  rw [kV h1]
  refine qu (fn.snd gk ok h2 w) λx σ h v hv=>?_
  refine jQ (fst:=[]) (by rw [(zO h3).1,js.1];rfl) ?_
  refine xG (JQ gk ok h3 h4 v h) (λys σ h few=>?_) λoo oo e=>e
  refine qk h λus kvs k1 k2 k3=>?_
  exact k3.h few v ys.1 ys.2 hv k1 k2) λoo oo oo=>rfl
@[reducible] noncomputable def meth (o:EX) (i:Nat) (as:List EX) (ks:List (Nat × EX × Nat)) (ap p:Nat):EX:= .of (λN=> .Call (.Attribute (o.ast N) (N.nm i) (P ap)) (zA N as) (xV N ks) (P p))
 (λN=>kd (o.ast N) !=7 && o.chk N && Xx N as && vY N ks && BA (as.length+ks.length) 25 && (P ap).endLine==(P p).line)
 (λg f n Q E σ=>o.wp g f n (λx σ=>zE g f n x i (λm σ=>wEs g f n as (λxs σ=>wKs g f n ks (λkvs σ=>qb g f n m.1 (m.2++xs) kvs Q E σ) E σ) E σ) E σ) E σ)
 (λ{g f n mg mb} gk ok hc {Q E σ} w=>by
  refine qc (qh hc) λh1 h7=>?_
  refine qc (qh h1) λh1 h6=>?_
  refine qc (qh h1) λh1 h5=>?_
  refine qc (qh h1) λh1 h4=>?_
  refine qc (qh h1) λh2 h3=>?_
  have h6:=yL.mp h6
  show W g f n (VR g) (eval (.Call (.Attribute (o.ast _) (Nm.nm _ i) (P ap)) (zA _ as) (xV _ ks) (P p)) f.env) Q E σ
  rw [arm_eval_Call,xn h2]
  refine qu (o.snd gk ok h3 w) λx σ h v hv=>qi ?_
  unfold methodCall
  have la:(zA (f.nmOf g) as).length=as.length:=yq ..
  have lk:(xV (f.nmOf g) ks).length=ks.length:=yq ..
  have hfew:FD ((zA (f.nmOf g) as).length+(xV (f.nmOf g) ks).length) (Dc (P p) (W4 (zA (f.nmOf g) as) f.env)) (B2 (P p) (W8 (xV (f.nmOf g) ks) f.env))=true:=by
   unfold FD
   have e1:=(zO (p:=P p) (env:=f.env) h4).1
   have e2:=(js (N:=f.nmOf g) (p:=P p) (env:=f.env) (ks:=ks)).2.1
   have e3:(Dc (P p) (W4 (zA (f.nmOf g) as) f.env)).all (λx=> !x.1)=true:=by
    rw [Hr];simp only [Bool.not_not];rw [e1];rfl
   rw [e3,e2,la,lk]
   simp only [HV,decide_eq_true_eq]
   split<;>(first|lia|omega)
  rw [hfew,xY h7]
  refine qu (r:=MR g) (Q:=λm σ=>wEs g f n as (λxs σ=>wKs g f n ks (λkvs σ=>qb g f n m.1 (m.2++xs) kvs Q E σ) E σ) E σ) (qr ?_) λm σ h mv hm=>?_
  ·show W g f n (MR g) (calleeOf true (o.ast _) f.env v (Nm.nm _ i)) _ E σ
   unfold calleeOf
   rw [if_pos rfl]
   exact h.h v _ hv
  ·obtain ⟨m1,m2⟩:=mv
   refine j5 ?_
   refine jQ (fst:=m2) (by rw [(zO h4).1,js.1];rfl) ?_
   refine xG (JQ gk ok h4 h5 m1 h) (λys σ h few=>?_) λoo oo e=>e
   refine qk h λus kvs k1 k2 k3=>?_
   exact k3.h few m1 (m2++ys.1) ys.2 hm.1 (hm.2.append k1) k2) λoo oo oo=>rfl
@[reducible] noncomputable def fval (a:EX) (p:Nat):EX:= .of (λN=> .FormattedValue (a.ast N) (-1) .none (P p)) a.chk
 (λg f n Q E σ=>a.wp g f n (λx σ=>Xr g f n x Q E σ) E σ)
 (λ{g f n mg mb} gk ok hc {Q E σ} w=>by
  show W g f n (VR g) (eval (.FormattedValue (a.ast _) (-1) .none (P p)) f.env) Q E σ
  rw [arm_eval_FormattedValue]
  refine qu (a.snd gk ok hc w) λx σ h v hv=>qi (W_hbind ?_)
  show W g f n (VR g) (formatField v Str.empty) Q E σ
  exact h.h v hv) λoo oo oo=>rfl
@[reducible] noncomputable def fstr (a b:EX) (es:List EX) (p:Nat):EX:= .of (λN=> .JoinedStr (zA N (a::b::es)) (P p)) (λN=>YN N (a::b::es))
 (λg f n Q E σ=>wFs g f n (a::b::es) Str.empty Q E σ)
 (λ{g f n mg mb} gk ok hc {Q E σ} w=>sFs gk ok (a::b::es) hc (by rw [Wp];decide) w) λoo oo oo=>rfl
theorem Xt:Obj.IsDictOf (strKind prog w) {cls:= .type "dict",data:= .dict #[]} []:=
 (ZW (#[]) 0 (qy rfl rfl rfl) rfl (λoo h=>by simp at h) (.nil) WW)
theorem sPs {g f n mg mb} (gk : GOk g mg mb) (ok : FOk g f) (p : Pos) (ps : List (EX × EX)) : (ps.all λq => q.1.chk (f.nmOf g) && q.2.chk (f.nmOf g)) = true -> ∃ pairs : List (Sem yr × Sem yr),
    (evalEachOpt (ps.map λq => some (q.1.ast (f.nmOf g))) f.env).zip ((D9 (ps.map (·.2.ast (f.nmOf g))) f.env).map λv => do let x <- v; standAt p; pure x) = pairs.map (λq => (some q.1, q.2)) /\ pairs.length = ps.length /\
    ∀ {Q : List (V × V) -> St -> Prop} {E : QE} {σ : St}, wPs g f n ps Q E σ -> W g f n (PRs g) (evalPairs pairs) Q E σ := by
  induction ps with
  | nil =>
    exact @λh => (qK [] rfl rfl (λ{Q E σ} w => qI zg.nil w))
  | cons hd r ih =>
    obtain ⟨a, b⟩ := hd
    exact @λh => by
      refine qc (qh h) λh1 h2 =>?_
      refine qc (qh h1) λh1 h3 =>?_
      refine zk (ih h2) λpairs k1 k2 k3 =>?_
      refine qK ((eval (a.ast (f.nmOf g)) f.env, do let x <- eval (b.ast (f.nmOf g)) f.env; standAt p; pure x) :: pairs) ?_ (by rw [WE, WE, k2]) (λ{Q E σ} w =>?_)
      · show (some (eval (a.ast (f.nmOf g)) f.env), _) :: (evalEachOpt (r.map λq => some (q.1.ast (f.nmOf g))) f.env).zip _ = _
        rw [k1]; rfl
      · show W g f n (PRs g) (do
          let kv <- eval (a.ast (f.nmOf g)) f.env
          let vv <- holding [kv] (do let x <- eval (b.ast (f.nmOf g)) f.env; standAt p; pure x)
          return (kv, vv) :: (<- holding [kv, vv] (evalPairs pairs))) Q E σ
        refine qu (a.snd gk ok h1 w) λx σ h1 v hv => W_hbind ?_
        simp only [bind_assoc, pure_bind]
        refine qu (b.snd gk ok h3 h1) λy σ h2 u hu => qi ?_
        refine qu (qr (k3 h2)) λq σ h3 vs hvs =>?_
        exact qI (r := PRs g) (zg.cons (x := (x, y)) (v := (v, u)) (qa hv hu) hvs) h3
@[reducible] noncomputable def dict (ps:List (EX × EX)) (p:Nat):EX:= .of (λN=> .Dict (ps.map λq=>some (q.1.ast N)) (ps.map (·.2.ast N)) (P p)) (λN=>(ps.all λq=>q.1.chk N && q.2.chk N) && BA 0 ps.length && WQ ps.length 15)
 (λg f n Q E σ=>∀d,wPs g f n ps (λps σ=>jw g f n d ps (λσ=>Q (.ref d) σ) E σ) E {σ with H:=(d,.sdict [])::σ.H})
 (λ{g f n mg mb} gk ok hc {Q E σ} w=>by
  refine qc (qh hc) λh1 h3=>?_
  refine qc (qh h1) λh1 h2=>?_
  have h2:=yL.mp h2
  have h3:=HN.mp h3
  show W g f n (VR g) (eval (.Dict (ps.map λq=>some (q.1.ast (f.nmOf g))) (ps.map (·.2.ast (f.nmOf g))) (P p)) f.env) Q E σ
  rw [arm_eval_Dict]
  refine zk (sPs (n:=n) gk ok (P p) ps h1) λpairs e1 e2 e3=>?_
  rw [e1,dictDisplay_pairs pairs (by rintro rfl;simp at e2;exact (zI [.nt KA VA,.ne KA VA] .ff [0,1,-1] rfl h2 e2)) (by (first|lia|omega))]
  refine qi ?_
  unfold subDict
  intro A s hA hs
  refine yo (yo (wpAny_alloc ?_))
  have hs':=hs.push (o:= .sdict []) (obj:={cls:= .type "dict",data:= .dict #[]}) ⟨[],_,rfl,Xt,rfl⟩
  refine yo (Wr ?_)
  rw [if_pos (by (first|lia|omega))]
  refine yo (yK (e3 (w s.heap.objs.size) A _ hA hs') (λvs s₁ ⟨kvs,σ₁,k1,k2,k3⟩=>?_) λoo oo e=>e)
  exact Wr (yK (k3.h vs k1 A s₁ hA k2) (λoo s₂ zf=>zf.elim λoo zf=>zf.elim λσ₂ zf=>zf.elim λoo zf=>zf.elim λk4 k5=>yB (yB ⟨_,σ₂,.ref,k4,k5⟩)) λoo oo e=>e)) λoo oo oo=>rfl
end E
end
noncomputable section
inductive TG where
 |one (i p:Nat)
 |tup (l:List (Nat × Nat)) (k p:Nat)
 |tupc (l:List (Nat × Nat)) (k p:Nat)
noncomputable def nmE (N:Nm) (q:Nat × Nat):Expr:= .Name (N.nm (N.slot q.1)) (P q.2)
noncomputable def nmC (N:Nm) (q:Nat × Nat):Expr:= .Name (N.nm q.1) (P q.2)
noncomputable def TG.ast (N:Nm):TG->Expr
 | .one i p=> .Name (N.nm (N.slot i)) (P p)
 | .tup l k p=> .Tuple (l.map (nmE N)) k (P p)
 | .tupc l k p=> .Tuple (l.map (nmC N)) k (P p)
noncomputable def TG.chk (N:Nm):TG->Bool
 | .one i _=>N.isLoc i
 | .tup l _ _=>l.all λq=>N.isLoc q.1
 | .tupc l _ _=>l.all λq=>N.kind q.1==some .cell
noncomputable def sts:List (Nat × Nat)->List V->List (Option V)->List (Option V)
 |q::r,x::t,l=>sts r t (st l q.1 x)
 |_,_,l=>l
def wCs (f:Fx) (Q:St->Prop):List (Nat × Nat)->List V->St->Prop
 |q::r,x::t,σ=>∃a w H',f.cells.lookup q.1=some a/\HU a (.cell w) (.cell (some x)) σ.H H'/\wCs f Q r t {σ with H:=H'}
 |_,_,σ=>Q σ
def wTg (g:G) (f:Fx) (n:Nat) (tg:TG) (x:V) (Q:St->Prop) (E:QE) (σ:St):Prop:=match tg with
 | .one i _=>Q {σ with loc:=st σ.loc i x}
 | .tup l _ _=>wD g f n x l.length (λxs σ=>Q {σ with loc:=sts l xs σ.loc}) E σ
 | .tupc l _ _=>wD g f n x l.length (λxs σ=>wCs f Q l xs σ) E σ
section
variable {g:G} {f:Fx} {n:Nat} {mg mb:Str->Option yr} {σ:St} {E:QE}
theorem QP (gk : GOk g mg mb) (ok : FOk g f) (l : List (Nat × Nat)) : ∀ (ys : List V) (vs : List yr) {Q : Unit -> St -> Prop} {σ : St}, VRs g ys vs -> (l.all λq => (f.nmOf g).isLoc q.1) = true ->
    Q () { σ with loc := sts l ys σ.loc } -> ys.length = l.length -> W g f n Eq (FZ ((Ba (l.map (nmE (f.nmOf g))) f.env).map (·.2)) vs) Q E σ := by
  induction l with
  | nil =>
    exact @λys vs Q σ hv h1 h hl => by
      rcases ys with _ | ⟨y, ys⟩
      · obtain rfl := hv; exact qI rfl h
      · cases hl
  | cons q r ih =>
    exact @λys vs Q σ hv h1 h hl => by
      rcases ys with _ | ⟨y, ys⟩
      · cases hl
      · (refine qk hv λv vs z44 h2 h3 =>?_; clear hv; subst z44)
        refine qc (qh h1) λk1 k2 =>?_
        refine Qn (slot_of k1) λk e1 e2 e3 e4 =>?_
        show W g f n Eq (do holding vs (Bl (.Name _ (P q.2)) f.env v); FZ ((Ba (r.map (nmE (f.nmOf g))) f.env).map (·.2)) vs) Q E σ
        refine qu (Q := λoo σ' => σ' = { σ with loc := st σ.loc q.1 y }) (qr (qi (xl (jX gk ok e1 e2 e3 h2 rfl)))) λoo σ' e v hv =>?_
        subst e
        exact ih _ _ h3 k2 h (by simpa using hl)
theorem QJ (gk : GOk g mg mb) (ok : FOk g f) (l : List (Nat × Nat)) : ∀ (ys : List V) (vs : List yr) {Q : St -> Prop} {σ : St}, VRs g ys vs -> (l.all λq => (f.nmOf g).kind q.1 == some .cell) = true ->
    wCs f Q l ys σ -> ys.length = l.length -> W g f n Eq (FZ ((Ba (l.map (nmC (f.nmOf g))) f.env).map (·.2)) vs) (λ(_ : Unit) => Q) E σ := by
  induction l with
  | nil =>
    exact @λys vs Q σ hv h1 h hl => by
      rcases ys with _ | ⟨y, ys⟩
      · obtain rfl := hv; exact qI rfl h
      · cases hl
  | cons q r ih =>
    exact @λys vs Q σ hv h1 h hl => by
      rcases ys with _ | ⟨y, ys⟩
      · cases hl
      · (refine qk hv λv vs z45 h2 h3 =>?_; clear hv; subst z45)
        refine qc (qh h1) λk1 k2 =>?_
        refine kT h λa w₀ H' e1 e2 e3 =>?_
        show W g f n Eq (do holding vs (Bl (.Name _ (P q.2)) f.env v); FZ ((Ba (r.map (nmC (f.nmOf g))) f.env).map (·.2)) vs) _ E σ
        refine qu (Q := λoo σ' => σ' = { σ with H := H' }) (qr (qi (xl (jT ok rfl (eq_of_beq k1) h2 e1 e2 rfl)))) λoo σ' e v hv =>?_
        subst e
        exact ih _ _ h3 k2 e3 (by simpa using hl)
theorem zD (gk:GOk g mg mb) (ok:FOk g f) (tg:TG) (hc:tg.chk (f.nmOf g)=true) (hv:VR g x v) (h:wTg g f n tg x Q E σ):W g f n Eq (Bl (tg.ast (f.nmOf g)) f.env v) (λ(_:Unit)=>Q) E σ:=by
 rcases tg with ⟨i,p⟩|⟨l,k,p⟩|⟨l,k,p⟩
 ·refine Qn (slot_of hc) λk e1 e2 e3 e4=>?_
  exact qi (xl (jX gk ok e1 e2 e3 hv h))
 ·show W g f n Eq (Bl (.Tuple (l.map (nmE (f.nmOf g))) k (P p)) f.env v) _ E σ
  rw [arm_assign_Tuple]
  refine qi ?_
  unfold unpack
  have e1: ∀l:List (Nat × Nat),(Ba (l.map (nmE (f.nmOf g))) f.env).findIdx? (·.1)=none/\(Ba (l.map (nmE (f.nmOf g))) f.env).length=l.length:=λl=>by
   induction l with
   |nil=>exact qa rfl rfl
   |cons a r ih=>
    refine qa ?_ ?_
    ·show ((false,_)::Ba (r.map (nmE (f.nmOf g))) f.env).findIdx? (·.1)=none
     rw [List.findIdx?_cons];simp [ih.1]
    ·show (Ba (r.map (nmE (f.nmOf g))) f.env).length+1=r.length+1
     rw [ih.2]
  rw [(e1 l).1,(e1 l).2]
  refine qu (qr (h.h v hv)) λys σ h vs u=>?_
  exact QP gk ok l ys vs u.1 hc h u.2
 ·show W g f n Eq (Bl (.Tuple (l.map (nmC (f.nmOf g))) k (P p)) f.env v) _ E σ
  rw [arm_assign_Tuple]
  refine qi ?_
  unfold unpack
  have e1: ∀l:List (Nat × Nat),(Ba (l.map (nmC (f.nmOf g))) f.env).findIdx? (·.1)=none/\(Ba (l.map (nmC (f.nmOf g))) f.env).length=l.length:=λl=>by
   induction l with
   |nil=>exact qa rfl rfl
   |cons a r ih=>
    refine qa ?_ ?_
    ·show ((false,_)::Ba (r.map (nmC (f.nmOf g))) f.env).findIdx? (·.1)=none
     rw [List.findIdx?_cons];simp [ih.1]
    ·show (Ba (r.map (nmC (f.nmOf g))) f.env).length+1=r.length+1
     rw [ih.2]
  rw [(e1 l).1,(e1 l).2]
  refine qu (qr (h.h v hv)) λys σ h vs u=>?_
  exact QJ gk ok l ys vs u.1 hc h u.2
end
structure SX where
 ast:Nm->Stmt
 chk:Nm->Bool
 wp:G->Fx->Nat->QF->QE->St->Prop
 snd: ∀{g f n mg mb},GOk g mg mb->FOk g f->chk (f.nmOf g)=true->∀{Q E σ},wp g f n Q E σ->W g f n (FR g) (exec (ast (f.nmOf g)) f.env) Q E σ
noncomputable def xm (N:Nm) (l:List SX):List Stmt:=l.map (·.ast N)
noncomputable def xP (N:Nm) (l:List SX):Bool:=l.all (·.chk N)
noncomputable def nxt (k:St->Prop) (Q:QF):QF:=λfl σ=>match fl with| .next=>k σ|fl=>Q fl σ
def wSs (g:G) (f:Fx) (n:Nat):List SX->QF->QE->St->Prop
 |[],Q,E,σ=>Q .next σ
 |a::r,Q,E,σ=>a.wp g f n (nxt (λσ=>wSs g f n r Q E σ) Q) E σ
structure HX where
 ty:EX
 nm:Option Nat
 body:List SX
 p:Nat
noncomputable def HX.ast (N:Nm) (h:HX):ExceptHandler:= .ExceptHandler (some (h.ty.ast N)) (h.nm.map λi=>N.nm (N.slot i)) (xm N h.body) (P h.p)
noncomputable def HX.chk (N:Nm) (h:HX):Bool:=h.ty.chk N && (match h.nm with|some i=>N.isLoc i|none=>true) && xP N h.body && !h.body.isEmpty
section
variable (g:G) (f:Fx) (n:Nat)
abbrev zC (tg:TG) (x:V) (b o:List SX) (Q:QF) (E:QE) (σ:St):Prop:=
 Op 17 (x,tg)<|tg.chk (f.nmOf g)=true->xP (f.nmOf g) b=true->xP (f.nmOf g) o=true->∀a,VR g x a->W g f n (FR g) (holding [a] (Hg a)>>=λit=>runOwn (.forLoop (tg.ast (f.nmOf g)) it (xm (f.nmOf g) b) (xm (f.nmOf g) o) f.env) f.env) Q E σ
abbrev YC (hs:List HX) (e:Ex) (Q:QF) (E:QE) (σ:St):Prop:=
 Op 19 (e,hs)<|(hs.all (·.chk (f.nmOf g)))=true->∀A s,AOk f n A->zF g f σ s e.addr e.cls->
    yP g.M A (BE (.ref e.addr) f.env) (λ_ s₂=>yP g.M A (FM (.ref e.addr) none) (λ_ s₃=>yP g.M A (handleBy (.ref e.addr) f.env (hs.map (·.ast (f.nmOf g))))
     (λv s'=>∃x σ',FR g x v/\Rep g f σ' s'/\Q x σ') (EP g f E) s₃) (EP g f E) s₂) (EP g f E) s
end
section
variable {g:G} {f:Fx} {n:Nat} {mg mb:Str->Option yr} {σ:St} {E:QE}
theorem wN {Q:QF} (h:Q .next σ):W g f n (FR g) (pure Flow.next) Q E σ:=qI FR.next h
theorem Zy {Q':QF} (h:W g f n Eq t (λ(_:Unit)=>Q) E σ) (hk: ∀σ,Q σ->W g f n (FR g) (k ()) Q' E σ):W g f n (FR g) (t>>=k) Q' E σ:=
 qu h λoo oo q v hv=>by subst hv;exact hk _ q
theorem sSs (gk : GOk g mg mb) (ok : FOk g f) (l : List SX) : xP (f.nmOf g) l = true -> ∀ {Q : QF} {E : QE} {σ : St}, wSs g f n l Q E σ -> W g f n (FR g) (Dd (xm (f.nmOf g) l) f.env) Q E σ := by
  induction l with
  | nil =>
    exact @λh Q E σ w => wN w
  | cons a r ih =>
    exact @λh Q E σ w => by
      show W g f n (FR g) (do
        match <- exec (a.ast (f.nmOf g)) f.env with
        | .next => Dd (xm (f.nmOf g) r) f.env
        | f => pure f) Q E σ
      refine qu (a.snd gk ok (qh h).1 w) λfl σ h' v hv =>?_
      cases fl with
      | next => cases hv; exact ih (qh h).2 h'
      | brk => cases hv; exact qI FR.brk h'
      | cont => cases hv; exact qI FR.cont h'
      | ret x => (refine qf hv λu z46 hu =>?_; clear hv; subst z46); exact qI (FR.ret hu) h'
theorem XB (h:(kd v !=5)=true):FN v t l env=pure false:=by
 cases v<;>first|rfl|cases h
theorem Jq (h:env.kindOf x=some .cell):FN v (some (.Name x q)) l env=pure false:=by
 cases v<;>first|rfl|(show pure (env.blockKind== .function && env.kindOf x==some .local && _ && _)=pure false;rw [h];cases env.blockKind<;>rfl)
theorem Yl (h:FN v (some t) p.line env=pure false) (hs:swappedStores [t] v env=pure none):
  exec (.Assign [t] v p) env=(standAt p>>=λoo=>eval v env>>=λx=>assignAll x ((Ba [t] env).map (·.2))>>=λoo=>pure .next):=by
 rw [arm_exec_Assign]
 have:swapsWithSole [t] v p.line env=pure false:=h
 rw [this,hs]
 rfl
theorem Z3 (h:(kd t !=6)=true\/(kd v !=6)=true):swappedStores [t] v env=pure none:=by
 cases t<;>first|rfl|(cases v<;>first|rfl|(rcases h with h|h<;>cases h))
theorem ZJ {Q:QF} (h:Q .next σ):W g f n (FR g) (dropValue e p v) Q E σ:=λA s hA hs=>wpAny_dropValue (qe (.next) _ rfl hs h)
theorem vf {Q:QF} (h:FN v (some t) p.line f.env=pure false) (hs:(kd t !=6)=true\/(kd v !=6)=true) (w:Wv g f n v q E σ) (e0: ∃b,Ba [t] f.env=[(b,λu=>Bl t f.env u)]) (ht: ∀x σ u,q x σ->VR g x u->W g f n Eq (Bl t f.env u) (λ(_:Unit) σ=>Q .next σ) E σ):
  W g f n (FR g) (exec (.Assign [t] v p) f.env) Q E σ:=by
 refine qA e0 λb e0=>?_
 rw [Yl h (Z3 hs),e0]
 refine qi (qu w λy σ h u hu=>?_)
 exact Zy (ht y σ u h hu) λoo q=>wN q
theorem Ye {Q:QF} (h:(kd v !=5)=true) (hs:(kd t !=6)=true\/(kd v !=6)=true) (w:Wv g f n v q E σ) (e0: ∃b,Ba [t] f.env=[(b,λu=>Bl t f.env u)]) (ht: ∀x σ u,q x σ->VR g x u->W g f n Eq (Bl t f.env u) (λ(_:Unit) σ=>Q .next σ) E σ):
  W g f n (FR g) (exec (.Assign [t] v p) f.env) Q E σ:=vf (XB h) hs w e0 ht
end
namespace S
@[reducible] noncomputable def asg (tg:TG) (e:EX) (p:Nat):SX:=⟨λN=> .Assign [tg.ast N] (e.ast N) (P p),λN=>tg.chk N && kd (e.ast N) !=5 && (kd (tg.ast N) !=6||kd (e.ast N) !=6) && e.chk N,
 λg f n Q E σ=>e.wp g f n (λx σ=>wTg g f n tg x (λσ=>Q .next σ) E σ) E σ,
 λ{g f n mg mb} gk ok hc {Q E σ} w=>by
  refine qc (qh hc) λh1 h4=>?_
  refine qc (qh h1) λh1 h3=>?_
  refine qc (qh h1) λh1 h2=>?_
  exact Ye h2 (BF.mp h3) (e.snd gk ok h4 w) (by cases tg<;>exact qx _ rfl) λx σ u q hu=>zD gk ok tg h1 hu q⟩
@[reducible] noncomputable def asc (i:Nat) (e:EX) (q p:Nat):SX:=⟨λN=> .Assign [.Name (N.nm i) (P q)] (e.ast N) (P p),λN=>N.kind i==some .cell && e.chk N,
 λg f n Q E σ=>e.wp g f n (λx σ=>∃a w H',f.cells.lookup i=some a/\HU a (.cell w) (.cell (some x)) σ.H H'/\Q .next {σ with H:=H'}) E σ,
 λ{g f n mg mb} gk ok hc {Q E σ} w=>by
  refine qc (qh hc) λh1 h3=>?_
  exact vf (Jq (eq_of_beq h1)) (.inl rfl) (e.snd gk ok h3 w) ⟨_,rfl⟩ λx σ u ⟨a,w₀,H',k1,k2,k3⟩ hu=>qi (xl (jT ok rfl (eq_of_beq h1) hu k1 k2 k3))⟩
@[reducible] noncomputable def asa (o:EX) (i:Nat) (e:EX) (q p:Nat):SX:=⟨λN=> .Assign [.Attribute (o.ast N) (N.nm i) (P q)] (e.ast N) (P p),λN=>N.lt i && kd (e.ast N) !=5 && o.chk N && e.chk N,
 λg f n Q E σ=>e.wp g f n (λx σ=>o.wp g f n (λy σ=>zr g f n y i x (λσ=>Q .next σ) E σ) E σ) E σ,
 λ{g f n mg mb} gk ok hc {Q E σ} w=>by
  refine qc (qh hc) λh1 h4=>?_
  refine qc (qh h1) λh1 h3=>?_
  refine qc (qh h1) λh1 h2=>?_
  refine Ye h2 (.inl rfl) (e.snd gk ok h4 w) ⟨_,rfl⟩ λx σ u h hu=>?_
  rw [arm_assign_Attribute]
  refine qu (qr (o.snd gk ok h3 h)) λy σ h z hz=>?_
  exact qi (qu (qr (h.h z u hz hu)) λoo σ h v hv=>Qc h)⟩
@[reducible] noncomputable def ass (o ix:EX) (e:EX) (q p:Nat):SX:=⟨λN=> .Assign [.Subscript (o.ast N) (ix.ast N) (P q)] (e.ast N) (P p),λN=>kd (ix.ast N) !=2 && kd (e.ast N) !=5 && o.chk N && ix.chk N && e.chk N,
 λg f n Q E σ=>e.wp g f n (λx σ=>o.wp g f n (λy σ=>ix.wp g f n (λz σ=>zj g f n y z x (λσ=>Q .next σ) E σ) E σ) E σ) E σ,
 λ{g f n mg mb} gk ok hc {Q E σ} w=>by
  refine qc (qh hc) λh1 h5=>?_
  refine qc (qh h1) λh1 h4=>?_
  refine qc (qh h1) λh1 h3=>?_
  refine qc (qh h1) λh1 h2=>?_
  refine Ye h2 (.inl rfl) (e.snd gk ok h5 w) ⟨_,rfl⟩ λx σ u h hu=>?_
  rw [arm_assign_Subscript]
  refine qu (qr (o.snd gk ok h3 h)) λy σ h z hz=>?_
  refine qu (qr (ix.snd gk ok h4 h)) λy σ h r hr=>?_
  exact qi (qu (qr (h.h z r u hz hr hu)) λoo σ h v hv=>Qc h)⟩
@[reducible] noncomputable def aug (i:Nat) (op:FC) (e:EX) (q p:Nat):SX:=⟨λN=> .AugAssign (.Name (N.nm (N.slot i)) (P q)) op (e.ast N) (P p),λN=>N.isLoc i && e.chk N,
 λg f n Q E σ=>match lk σ.loc i with|some x=>e.wp g f n (λy σ=>zG g f n op x y (λz σ=>Q .next {σ with loc:=st σ.loc i z}) E σ) E σ|none=>False,
 λ{g f n mg mb} gk ok hc {Q E σ} w=>by
  refine qc (qh hc) λh1 h2=>?_
  refine Qn (slot_of h1) λk e1 e2 e3 e4=>?_
  cases hl:lk σ.loc i with
  |none=>rw [hl] at w;exact w.elim
  |some x=>
   rw [hl] at w
   rw [arm_exec_AugAssign]
   refine qi (wV (ko ok e1 e2 e3 hl λold ZL=>?_))
   refine qu (qr (e.snd gk ok h2 w)) λy σ h u hu=>?_
   refine qi (qu (zU (h.h old u ZL hu)) λz σ h t ht=>qi ?_)
   exact Zy (xl (jX gk ok e1 e2 e3 ht h)) λoo q=>wN q⟩
@[reducible] noncomputable def auc (i:Nat) (op:FC) (e:EX) (q p:Nat):SX:=⟨λN=> .AugAssign (.Name (N.nm i) (P q)) op (e.ast N) (P p),λN=>N.kind i==some .cell && !(N.nm i==("__classdict__":Str)) && e.chk N,
 λg f n Q E σ=>∃a x,f.cells.lookup i=some a/\(a,.cell (some x))∈σ.H/\e.wp g f n (λy σ=>zG g f n op x y (λz σ=>∃w H',HU a (.cell w) (.cell (some z)) σ.H H'/\Q .next {σ with H:=H'}) E σ) E σ,
 λ{g f n mg mb} gk ok hc {Q E σ} ⟨a,y,y1,y2,y3⟩=>by
  refine qc (qh hc) λh1 h3=>?_
  refine qc (qh h1) λh1 h2=>?_
  rw [arm_exec_AugAssign]
  refine qi (wV (Qv ok rfl (.inl (eq_of_beq h1)) (not_true h2) y1 y2 λold ZL=>?_))
  refine qu (qr (e.snd gk ok h3 y3)) λy σ h u hu=>?_
  refine qi (qu (zU (h.h old u ZL hu)) λz σ ⟨w₀,H',z1,z2⟩ t ht=>qi ?_)
  exact Zy (xl (jT ok rfl (eq_of_beq h1) ht y1 z1 z2)) λoo q=>wN q⟩
@[reducible] noncomputable def aua (o:EX) (i:Nat) (op:FC) (e:EX) (q p:Nat):SX:=⟨λN=> .AugAssign (.Attribute (o.ast N) (N.nm i) (P q)) op (e.ast N) (P p),λN=>N.lt i && o.chk N && e.chk N,
 λg f n Q E σ=>o.wp g f n (λx σ=>zT g f n x i (λy σ=>e.wp g f n (λz σ=>zG g f n op y z (λw σ=>zr g f n x i w (λσ=>Q .next σ) E σ) E σ) E σ) E σ) E σ,
 λ{g f n mg mb} gk ok hc {Q E σ} w=>by
  refine qc (qh hc) λh1 h3=>?_
  refine qc (qh h1) λh1 h2=>?_
  rw [arm_exec_AugAssign_2]
  refine qi (qu (o.snd gk ok h2 w) λy σ h u hu=>Mine.Internal.E.W_hbind ?_)
  simp only [bind_assoc]
  refine qi (qu (h.h u hu) λz σ h old ZL=>?_)
  refine qu (qr (e.snd gk ok h3 h)) λy σ h t ht=>?_
  refine qi (qu (zU (h.h old t ZL ht)) λz σ h r hr=>?_)
  refine qi (Zy (qr (h.h u r hu hr)) λσ q=>?_)
  exact wm (wN q)⟩
@[reducible] noncomputable def exp (e:EX) (p:Nat):SX:=⟨λN=> .Expr (e.ast N) (P p),λN=>kd (e.ast N) !=5 && e.chk N,
 λg f n Q E σ=>e.wp g f n (λoo σ=>Q .next σ) E σ,
 λ{g f n mg mb} gk ok hc {Q E σ} w=>by
  refine qc (qh hc) λh1 h2=>?_
  rw [arm_exec_Expr,XB h1]
  have hi:Bm f.env=false:=by unfold Bm;rw [ok.kind];rfl
  refine qi ?_
  rw [hi]
  refine j5 (qu (e.snd gk ok h2 w) λy σ h u hu=>?_)
  exact ZJ h⟩
@[reducible] noncomputable def ret (e : EX) (p : Nat) : SX := ⟨λN => .Return (some (e.ast N)) (P p), e.chk, λg f n Q E σ => e.wp g f n (λx σ => Q (.ret x) σ) E σ,
  λ{g f n mg mb} gk ok hc {Q E σ} w => by
    rw [arm_exec_Return]
    refine qi ?_
    show W g f n (FR g) (do return .ret (<- eval (e.ast _) f.env)) Q E σ
    exact qu (e.snd gk ok hc w) λy σ h u hu => qI (FR.ret hu) h⟩
@[reducible] noncomputable def ret0 (p:Nat):SX:=⟨λN=> .Return none (P p),λ_=>true,λg f n Q E σ=>Q (.ret .none) σ,λ{g f n mg mb} gk ok hc {Q E σ} w=>qi (qI (FR.ret VR.none) w)⟩
@[reducible] noncomputable def brk (p:Nat):SX:=⟨λN=> .Break (P p),λ_=>true,λg f n Q E σ=>Q .brk σ,λ{g f n mg mb} gk ok hc {Q E σ} w=>qi (qI FR.brk w)⟩
@[reducible] noncomputable def cont (p:Nat):SX:=⟨λN=> .Continue (P p),λ_=>true,λg f n Q E σ=>Q .cont σ,λ{g f n mg mb} gk ok hc {Q E σ} w=>qi (qI FR.cont w)⟩
@[reducible] noncomputable def ite (c:EX) (a b:List SX) (p:Nat):SX:=⟨λN=> .If (c.ast N) (xm N a) (xm N b) (P p),λN=>c.chk N && xP N a && xP N b,
 λg f n Q E σ=>c.wt g f n (λt σ=>(t=true->wSs g f n a Q E σ)/\(t=false->wSs g f n b Q E σ)) E σ,
 λ{g f n mg mb} gk ok hc {Q E σ} w=>by
  refine qc (qh hc) λh1 h3=>?_
  refine qc (qh h1) λh1 h2=>?_
  rw [arm_exec_If]
  refine qi (qu (c.sndt gk ok h1 w) λt σ h v hv=>?_)
  subst hv
  cases t with
  |true=>exact sSs gk ok a h2 (h.1 rfl)
  |false=>exact sSs gk ok b h3 (h.2 rfl)⟩
@[reducible] noncomputable def for_ (tg:TG) (it:EX) (b o:List SX) (p:Nat):SX:=⟨λN=> .For (tg.ast N) (it.ast N) (xm N b) (xm N o) (P p),λN=>kd (it.ast N) !=4 && tg.chk N && it.chk N && xP N b && xP N o,
 λg f n Q E σ=>it.wp g f n (λx σ=>zC g f n tg x b o Q E σ) E σ,
 λ{g f n mg mb} gk ok hc {Q E σ} w=>by
  refine qc (qh hc) λh1 h5=>?_
  refine qc (qh h1) λh1 h4=>?_
  refine qc (qh h1) λh1 h3=>?_
  refine qc (qh h1) λh1 h2=>?_
  rw [arm_exec_For]
  refine qi (qu (it.snd gk ok h3 w) λz σ h u hu=>?_)
  have e1: ∀i:Expr,(kd i !=4)=true->foldedSetIterable i f.env u=pure u:=λi h0=>by cases i<;>first|rfl|cases h0
  rw [e1 _ h1]
  exact j5 (qi (h.h h2 h4 h5 u hu))⟩
@[reducible] noncomputable def try_ (b:List SX) (hs:List HX) (o:List SX) (p:Nat):SX:=⟨λN=> .Try (xm N b) (hs.map (·.ast N)) (xm N o) [] (P p),λN=>xP N b && (hs.all (·.chk N)) && xP N o && !hs.isEmpty,
 λg f n Q E σ=>wSs g f n b (nxt (λσ=>wSs g f n o Q E σ) Q) (λe σ=>YC g f n hs e Q E σ) σ,
 λ{g f n mg mb} gk ok hc {Q E σ} w=>by
  refine qc (qh hc) λh0 h4=>?_
  refine qc (qh h0) λh0 h3=>?_
  refine qc (qh h0) λh1 h2=>?_
  rcases hs with _|⟨h₀,hr⟩
  ·cases h4
  intro A s hA hs'
  refine wpAny_Try_except (yK (sSs gk ok b h1 w A s hA hs') (λfl s₁ ⟨l,σ₁,k1,k2,k3⟩=>?_) λe s₁ ⟨ex,σ₁,k1,k2,k3⟩=>?_)
  ·cases l with
   |next=>cases k1;exact sSs gk ok o h3 k3 A s₁ hA k2
   |brk=>cases k1;exact qe (.brk) σ₁ rfl k2 k3
   |cont=>cases k1;exact qe (.cont) σ₁ rfl k2 k3
   |ret x=>(refine qf k1 λu z47 hu=>?_;clear k1;subst z47);exact qe (.ret x) σ₁ ⟨u,rfl,hu⟩ k2 k3
  ·subst k1
   exact k3.h h2 A s₁ hA k2⟩
@[reducible] noncomputable def rai (e : EX) (p : Nat) : SX := ⟨λN => .Raise (some (e.ast N)) none (P p), e.chk, λg f n Q E σ => e.wp g f n (λx σ => X4 g f n x E σ) E σ,
  λ{g f n mg mb} gk ok hc {Q E σ} w => by
    rw [arm_exec_Raise]
    refine qi ?_
    show W g f n (FR g) (FK f.env (some (do let v <- eval (e.ast _) f.env; standAt (P p); pure v)) none) Q E σ
    unfold FK
    dsimp only
    simp -iota only [bind_assoc, pure_bind]
    refine qu (e.snd gk ok hc w) λy σ h u hu => qi ?_
    have k := h.h u hu
    unfold FK at k
    dsimp only at k
    simp -iota only [bind_assoc, pure_bind] at k
    exact xG k (λoo oo e => e.elim) λoo oo e => e⟩
end S
end
theorem NR.nofields {l}: ∀{N},NR l N->∀p∈N,∀vs,p.2.data≠.fields vs:=by
 induction l with
 |nil=>
  exact @λoo h p m oo=>by obtain rfl:=h;cases m
 |cons hd tl ih=>
  exact @λoo h p m vs=>by
   (refine qk h λv r u g h2=>?_;clear h;subst u;obtain ⟨_,es,ep,hd,_⟩:=g)
   rcases yy.mp m with rfl|m
   ·intro e
    rw [hd] at e;cases e
   ·exact ih h2 p m vs
theorem NR.keys {l}: ∀{N},NR l N->N.map (·.1)=l.map (·.1):=by
 induction l with
 |nil=>
  exact @λoo h=>by obtain rfl:=h;rfl
 |cons hd tl ih=>
  exact @λoo h=>by
   (refine qk h λv r u g h2=>?_;clear h;subst u;obtain ⟨e,_⟩:=g)
   rw [yH,yH,ih h2,e]
theorem NR.slots {h':W0} {l}: ∀{N},NR l N->(∀p∈N,∃sl,h'.get? p.1=some {p.2 with slots:=sl})->∃N',NR l N'/\N'.map (·.1)=N.map (·.1)/\∀p∈N',h'.get? p.1=some p.2:=by
 induction l with
 |nil=>
  exact @λoo h oo=>by obtain rfl:=h;exact qK [] (.nil) rfl (λoo m=>(yI m).elim)
 |cons hd tl ih=>
  exact @λoo h k=>by
   (refine qk h λC r u g h2=>?_;clear h;obtain ⟨a,o⟩:=C;subst u;obtain ⟨e,es,ep,hd,r1,r2⟩:=g)
   obtain ⟨N',x1,x2,x3⟩:=ih h2 λp m=>k p (.tail _ m)
   refine qA (k (a,o) (.head _)) λsl hs=>?_
   refine qK ((a,{o with slots:=sl})::N') (.cons (qa e (qe es ep hd r1 r2)) x1) (by rw [yH,yH,x2]) (λp m=>?_)
   rcases yy.mp m with rfl|m
   ·exact hs
   ·exact x3 p m
section
variable {g:G} {f:Fx} {n:Nat} {mg mb:Str->Option yr} {σ:St} {s:yF} {E:QE} {A:y9}
theorem Jy (x1:NR nss nso) (x3:Lay prot (nso++N) h) {bad frs:List yu} (fr: ∀b∈frs,b∈nso.map (·.1)) (hb: ∀b∈bad,prot.get? b=none/\b ∉ (nso++N).map (·.1))
  (k1: ∀b o,h.get? b=some o->(∀vs,o.data≠.fields vs)->∃sl,h'.get? b=some {o with slots:=sl})
  (k2: ∀b o,h.get? b=some o->b ∉ frs->b ∉ bad->h'.get? b=some o): ∃u,NR nss u/\u.map (·.1)=nso.map (·.1)/\Lay prot (u++N) h':=by
 obtain ⟨u,y1,y2,y3⟩:=x1.slots (h':=h') λp hp=>k1 _ _ (x3.there p (yA _ hp)) (x1.nofields p hp)
 have nd:=x3.nodup
 rw [yE,Wm] at nd
 refine qK u y1 y2 ⟨?_,λp hp=>?_,λp hp=>?_,λb o e=>?_,x3.big,λp hp=>?_⟩
 ·rw [yE,y2,<- yE];exact x3.nodup
 ·refine Or.elim (yR.mp hp) (λhp=>?_) λhp=>?_
  ·exact y3 p hp
  ·refine k2 _ _ (x3.there p (yx _ hp)) (λq=>?_) λq=>?_
   ·exact nd.2.2 _ (fr _ q) _ (yT hp) rfl
   ·exact (hb _ q).2 (yT (yx _ hp))
 ·refine Or.elim (yR.mp hp) (λhp=>?_) λhp=>?_
  ·have:p.1∈nso.map (·.1):=y2 ▸ yT hp
   refine qf (yD.mp this) λq hq e=>?_
   rw [<- e];exact x3.fresh q (yA _ hq)
  ·exact x3.fresh p (yx _ hp)
 ·refine k2 b o (x3.stays b o e) (λq=>?_) λq=>?_
  ·refine qf (yD.mp (fr _ q)) λp hp e'=>?_
   have:=x3.fresh p (yA _ hp)
   rw [e',e] at this;cases this
  ·rw [(hb _ q).1] at e;cases e
 ·refine Or.elim (yR.mp hp) (λhp=>?_) λhp=>?_
  ·have:p.1∈nso.map (·.1):=y2 ▸ yT hp
   refine qf (yD.mp this) λq hq e=>?_
   rw [<- e];exact x3.low q (yA _ hq)
  ·exact x3.low p (yx _ hp)
theorem Ul (ok:FOk g f) (x1:NR ((f.L,m)::f.outs) nso): ∀b,b∈f.frames.filterMap (·.frame)->b∈nso.map (·.1):=λb hb=>by
 refine qf (List.mem_filterMap.mp hb) λe he hf=>?_
 (refine qc (ok.fun_ e he) λoo u=>?_;refine qf u λb' k3 k4=>?_)
 rw [k3] at hf;obtain rfl:=Wc.inj hf
 rw [x1.keys,yH]
 exact k4.elim (λe=>e ▸ .head _) (.tail _)
theorem Zp (ok:FOk g f) (h:Rep g f σ s) (hb: ∀b∈f.frames.filterMap (·.frame),base.get? b=none):s.heap.FunFrames base f.frames:=by
 refine xF h λm F N x1 x2 x3 x4=>?_
 have: ∀l:List Env,(∀e∈l,e∈f.frames)->s.heap.FunFrames base l:=λl=>by
  induction l with
  |nil=>intro _;trivial
  |cons e r ih=>
   intro hl
   (refine qc (ok.fun_ e (hl e (.head _))) λk1 C=>?_;refine qf C λb k2 k3=>?_)
   have hm:b∈F.map (·.1):=by
    rw [x1.keys,yH]
    exact k3.elim (λe=>e ▸ .head _) (.tail _)
   (refine qf (yD.mp hm) λp hp u=>?_;subst u)
   exact qy k1 (Qi p.1 p.2 k2 (hb _ (List.mem_filterMap.mpr (qj e (hl e (.head _)) k2))) (x3.there p (yA _ hp)) (x1.nofields p hp)) (ih λe h=>hl e (.tail _ h))
 exact this _ λoo h=>h
theorem ZH (h:e0.frame=env.frame):BE v env=BE v e0:=by
 unfold BE PySem.frameOf
 rw [h]
theorem Zk (hT:h.get? T=some oT) (hd:oT.data= .fields ts) (hi:i≠2):je h (h.update T (Obj.mapFields (·.setIfInBounds i v))):=λk ok vs h1 h2=>by
 by_cases e:T=k
 ·subst e
  rw [hT] at h1;obtain rfl:=Wc.inj h1
  rw [hd] at h2;cases h2
  exact qe _ _ (Heap.get?_update_self _ hT (Obj.isFreed_of_fields (Obj.data_mapFields hd _))) (Obj.data_mapFields hd _) (by rw [B8 hi])
 ·exact qe ok vs ((Heap.get?_update_other _ _ e).trans h1) h2 rfl
theorem Jv (ok:FOk g f) (hx:jR g f σ s e cls) (he:s.heap.get? e=some oe) (hd:oe.data= .fields vs) (h1:vs[1]? =some (.ref T)) (hT:s.heap.get? T=some oT) (u:oT.data= .fields ts)
  (k: ∀s',s'.heap=s.heap.update T (Obj.mapFields (·.setIfInBounds 3 v))->jR g f σ s' e cls->Q () s'):yP g.M A (setField (.ref T) 3 v) Q E' s:=by
 (refine xB hx λm Z N x1 x2 x3 x4 x5 X=>?_;refine xB X λab a0 c a1 a2 a3 a4 a5 J=>?_;refine xB J λT' ac aa a6 a7 a8 a9 I F=>?_)
 rw [he] at a1;obtain rfl:=Wc.inj a1
 rw [hd] at a3;cases a3
 rw [h1] at a6;cases a6
 rw [hT] at a9;obtain rfl:=Wc.inj a9
 rw [u] at I;cases I
 obtain ⟨C,y1,y2,y3⟩:=Jy (h':=s.heap.update T (Obj.mapFields (·.setIfInBounds 3 v))) (bad:=[T]) (frs:=[]) x1 x3 (λoo h=>(yI h).elim) (λb hb=>by rw [yN] at hb;subst hb;exact a8)
  (λb o hb hn=>⟨o.slots,(Heap.get?_update_other _ _ λq=>by rw [<- q,hT] at hb;obtain rfl:=Wc.inj hb;exact hn ts u).trans hb⟩)
  (λb o hb oo hn=>(Heap.get?_update_other _ _ λq=>hn (by rw [q];exact yN.mpr rfl)).trans hb)
 have ek:(C++N).map (·.1)=(Z++N).map (·.1):=by rw [yE,y2,yE]
 refine HJ hT u F (k _ rfl (xI m C N y1 x2 y3 x4 x5 (xI oe vs c ((Heap.get?_update_other _ _ a7).trans he) a2 hd (by rw [ek];exact a4) (qa a5.1 (a5.2.imp λl z=>(qa (z.1.keep (Zk hT u (by decide))) (by rw [ek];exact z.2)))) (xI T _ _ h1 a7 (by rw [ek];exact a8) (Heap.get?_update_self _ hT (Obj.isFreed_of_fields (Obj.data_mapFields u _))) (Obj.data_mapFields u _) (by simpa using F)))))
set_option tactic.hygienic true in
theorem Xk (ok : FOk g f) (hA : A.frames = some f.frames) (hx : zF g f σ s e cls) (hfr : f.frames = e0 :: r) (hf : e0.frame = some L)  
    (k : ∀ s', jR g f σ s' e cls -> Q () s') :
    yP g.M A (do let a <- PySem.frameOf e0; let pl <- entryPlaceOf L hadNext; let b <- EntryCells.newEntry head a .none (rawInt L) .none pl; setField (.ref e) 1 b) Q E' s := by
  have hs := hx.rep
  (refine xB hx λm nso N x1 x2 x3 x4 x5 z1 =>?_; refine xB z1 λoe vs c he z0 hd a4 a5 a6 =>?_; clear hx; subst z0)
  rw [hfr] at hA
  have hz : 1 < vs.size := by have := (Bq.mp a5.1).1; exact (qD [.nt KC VA] (.nt KB VA) rfl this)
  have fl : s.heap.FunFrames (Dn s.heap (f.frames.filterMap (·.frame))) (e0 :: r) := by rw [<- hfr]; exact Zp ok hs λb hb => Fm _ hb
  have fin := Ul ok x1
  have ef : e ∉ (e0 :: r).filterMap (·.frame) := λq => a4.2 (by
    rw [<- hfr] at q
    rw [yE]; exact yA _ (fin e q))
  refine yo (wpAny_frameOf_fun hA fl hf λh₁ hs₁ =>?_)
  refine yo (wpAny_entryPlaceOf λpl hpl =>?_)
  unfold EntryCells.newEntry DM
  refine yo (BB ?_ (hpl.sizeOk5 _ _ _ _ _))
  have he₁ : h₁.get? e = some oe := (hs₁.2.1 e ef).trans he
  have he₂ := Heap.get?_push_of_some (h := h₁) { cls := .type "traceback", dict := none, data := .fields ([head, .ref L, .none, rawInt L, .none] ++ (if pl.isEmpty then Wo 6 Value.none else pl)).toArray } he₁
  have hTe : h₁.objs.size ≠ e := Fn (Heap.lt_size he₁)
  have tz : ∀ o, s.heap.get? h₁.objs.size = some o -> False := λo ho => by
    obtain ⟨q, sl, _⟩ : ∃ q : Obj, ∃ sl : Unit, h₁.get? h₁.objs.size = some q := by
      by_cases hm : h₁.objs.size ∈ (e0 :: r).filterMap (·.frame)
      · by_cases hn : ∀ vs, o.data ≠ .fields vs
        · refine qA (hs₁.2.2 _ _ ho) λsl hsl =>?_; exact jH _ () hsl
        · refine qA (hs₁.2.2 _ _ ho) λsl hsl =>?_; exact jH _ () hsl
      · exact jH o () ((hs₁.2.1 _ hm).trans ho)
    rename_i hq
    exact WL _ (Heap.lt_size hq)
  obtain ⟨nso', y1, y2, y3⟩ := Jy (h' := (h₁.push { cls := .type "traceback", dict := none, data := .fields ([head, .ref L, .none, rawInt L, .none] ++ (if pl.isEmpty then Wo 6 Value.none else pl)).toArray }).update e (Obj.mapFields (·.setIfInBounds 1 (Value.ref h₁.objs.size)))) (bad := [e]) (frs := f.frames.filterMap (·.frame)) x1 x3 fin (λb hb => by rw [yN] at hb; subst hb; exact a4)
    (λb o hb hn => by
      refine qA (hs₁.2.2 _ _ hb) λsl hsl =>?_
      exact qx sl ((Heap.get?_update_other _ _ λq => by rw [<- q, he] at hb; obtain rfl := Wc.inj hb; exact hn vs hd).trans (Heap.get?_push_of_some _ hsl)))
    (λb o hb h1 h2 => (Heap.get?_update_other _ _ λq => h2 (by rw [q]; exact yN.mpr rfl)).trans (Heap.get?_push_of_some _ ((hs₁.2.1 b (by rw [<- hfr]; exact h1)).trans hb)))
  have ek : (nso' ++ N).map (·.1) = (nso ++ N).map (·.1) := by rw [yE, y2, yE]
  have fk : je s.heap ((h₁.push { cls := .type "traceback", dict := none, data := .fields ([head, .ref L, .none, rawInt L, .none] ++ (if pl.isEmpty then Wo 6 Value.none else pl)).toArray }).update e (Obj.mapFields (·.setIfInBounds 1 (Value.ref h₁.objs.size)))) := by
    refine je.trans (h' := h₁) (λk ok vs h1 h2 =>?_) ((je.of λb o hb => Heap.get?_push_of_some _ hb).trans (Zk he₂ hd (by decide)))
    refine qA (hs₁.2.2 _ _ h1) λsl hsl =>?_
    exact qe _ vs hsl h2 rfl
  refine HJ he₂ hd hz (k _ (xI m nso' N y1 x2 y3 x4 x5 (xI _ _ c (Heap.get?_update_self _ he₂ (Obj.isFreed_of_fields (Obj.data_mapFields hd _))) (Obj.cls_mapFields _ _) (Obj.data_mapFields hd _) (by rw [ek]; exact a4) (qa (by rw [B8 (by decide)]; exact a5.1) (a5.2.imp λl z => (qa (z.1.keep fk) (by rw [ek]; exact z.2)))) (xI h₁.objs.size _ _ (by simp [hz]) hTe (qa ?_ ?_) ((Heap.get?_update_other _ _ (Ne.symm hTe)).trans (Heap.get?_push_size h₁ rfl)) rfl ?_))))
  · cases q : f.prot.get? h₁.objs.size with
    | none => rfl
    | some o => exact (tz _ (x3.stays _ _ q)).elim
  · rw [ek]
    intro hm
    refine qf (yD.mp hm) λq hq e' =>?_
    have := x3.there q hq
    rw [e'] at this
    exact (tz _ this).elim
  · simp
theorem jt (ok:FOk g f) (hA:A.frames=some f.frames) (hx:zF g f σ s e cls)
  (k: ∀s',jR g f σ s' e cls->Q () s'):yP g.M A (BE (.ref e) f.env) Q E' s:=by
 refine qB (ok.frames) λe0 r u Z=>?_
 (refine qc (ok.fun_ e0 (u ▸ .head _)) λoo z2=>?_;refine qf z2 λL hL oo=>?_)
 rw [ZH Z]
 have X:=hx
 (refine xB hx λm J N x1 x2 x3 x4 x5 z4=>?_;refine xB z4 λoe vs c he z3 hd a4 a5 h1=>?_;clear hx;subst z3)
 unfold BE
 simp only [hL]
 rcases h1 with h1|⟨T,oT,ts,h1,a1,a0,hT,C,F⟩
 ·refine yo (Bn he hd h1 ?_)
  rw [if_neg (by decide)]
  exact Xk ok hA X u hL k
 ·refine yo (Bn he hd h1 ?_)
  rw [if_pos (show (Value.ref T !=Value.none)=true from by simp)]
  have h3:ts[3]? =some ts[3]:=DH F
  refine yo (Bn hT C h3 ?_)
  have I:jR g f σ s e oe.cls:=(xI m J N x1 x2 x3 x4 x5 (xI oe vs c he rfl hd a4 a5 (xI T oT ts h1 a1 a0 hT C F)))
  by_cases hq:(ts[3]==rawInt L)=true
  ·rw [if_pos hq]
   exact yB (k s I)
  ·rw [if_neg hq]
   exact yo (Jv ok I he hd h1 hT C λs' e1 hs'=>Xk ok hA hs'.x u hL k)
theorem xo (ok:FOk g f) (hx:zF g f σ s e cls)
  (k: ∀s',zF g f σ s' e cls->(jR g f σ s e cls->jR g f σ s' e cls)->Q () s'):yP g.M A (FM (.ref e) fr) Q E' s:=by
 have J:=hx
 (refine xB hx λm C N x1 x2 x3 x4 x5 z6=>?_;refine xB z6 λoe vs c he z5 hd a4 a5 h1=>?_;clear hx;subst z5)
 unfold FM
 rcases h1 with h1|⟨T,oT,ts,h1,Z,X,hT,u,F⟩
 ·refine yo (Bn he hd h1 ?_)
  rw [if_neg (by decide)]
  exact yB (k s J id)
 ·refine yo (Bn he hd h1 ?_)
  rw [if_pos (show (Value.ref T !=Value.none)=true from by simp)]
  have I:jR g f σ s e oe.cls:=(xI m C N x1 x2 x3 x4 x5 (xI oe vs c he rfl hd a4 a5 (xI T oT ts h1 Z X hT u F)))
  exact Jv ok I he hd h1 hT u λs' e1 hs'=>k s' hs'.x λoo=>hs'
theorem jR.field (hx:jR g f σ s e cls): ∃oe vs T,s.heap.get? e=some oe/\oe.data= .fields vs/\vs[1]? =some (.ref T):=by
 (refine xB hx λm u N x1 x2 x3 x4 x5 z7=>?_;refine xB z7 λoe vs c a1 a2 a3 a4 a5 z8=>?_;refine Xs z8 λT oT ts a6 oo=>?_)
 exact zX oe vs T a1 a3 a6
theorem JJ (ok:FOk g f) (hx:jR g f σ s e cls) (u:x=⟨e,cls⟩) (k:E x σ):cameBackBy g.M A f.env (EP g f E) (.ref e) s:=by
 refine kT (hx.field) λoe vs T he hd h1=>?_
 unfold cameBackBy
 refine yo (Bn he hd h1 ?_)
 rw [if_neg (by simp)]
 exact xo ok hx.x λs' hs' oo=>(qe x σ (by rw [u]) (by rw [u];exact hs') k)
end
noncomputable section
def xE (g:G) (prot:W0) (nss:List (yu × (Str->Option yr))) (H:List (yu × O)) (s:yF):Prop:=
 ∃nso N,NR nss nso/\HR g H N/\Lay prot (nso++N) s.heap/\GX g.gens s.gens/\s.drawn=g.drawn/\s.os=g.os
def jG (g:G) (prot:W0) (nss:List (yu × (Str->Option yr))) (keep:List yu) (H:List (yu × O)) (s:yF) (e:yu) (cls:yr):Prop:=
 ∃nso N,NR nss nso/\HR g H N/\Lay prot (nso++N) s.heap/\(GX g.gens s.gens/\s.drawn=g.drawn/\s.os=g.os)/\QQ prot ((nso++N).map (·.1)) keep e cls s.heap
structure COk (g:G) (k:Nat) (prot:W0) (nss:List (yu × (Str->Option yr))) (frs:List Env) (keep:List yu) (A:y9):Prop where
 frames:A.frames=some frs
 units:A.units<=k
 depth:A.depth<=k
 base:g.base.StaysIn prot
 hdc:match A.handled with|some v=>Ctx prot v keep|none=>keep=[]
 fun_: ∀e∈frs,e.scope.kind≠.module/\∃b,e.frame=some b/\b∈nss.map (·.1)
 guards:A.guards=some []
def qs (g:G) (k:Nat) (hd:Option yr) (fv:yr) (xs:List V) (kvs:List (Nat × V)) (H:List (yu × O)) (Q:V->List (yu × O)->Prop) (E:Ex->List (yu × O)->Prop):Prop:=
 ∀prot nss frames keep A s vs kw,COk g k prot nss frames keep A->A.handled=hd->xE g prot nss H s->VRs g xs vs->KWR g kvs kw->
  W9 g.M A (.call fv ⟨vs,kw⟩) (λr s'=>match r with
   | .ok (.ret v)=>∃x H',VR g x v/\xE g prot nss H' s'/\Q x H'
   | .ok _=>False
   | .error e=>∃x H',e= .ref x.addr/\jG g prot nss keep H' s' x.addr x.cls/\E x H') s
section
variable {g:G} {f:Fx} {n:Nat} {mg mb:Str->Option yr} {σ:St} {s:yF} {E:QE} {A:y9} {prot:W0} {nss:List (yu × (Str->Option yr))}
theorem xE.perm (h:xE g prot nss H s) (p:H.Perm H'):xE g prot nss H' s:=by
 refine xW h λu N a b c d=>?_
 refine qf (b.perm p) λN' b' q=>?_
 exact Qi u N' a b' (c.perm (q.append_left _)) d
theorem Rep.toG (h:Rep g f σ s): ∃m,xE g f.prot ((f.L,m)::f.outs) σ.H s/\jc g f.slots σ.loc m:=by
 refine ja h λm u N a b c d e=>?_
 exact qj m (Qi u N a b c e) d
theorem xE.toR (h:xE g f.prot ((f.L,m)::f.outs) H s) (hl:jc g f.slots loc m):Rep g f ⟨loc,H⟩ s:=by
 refine xW h λu N a b c d=>?_
 exact ji m u N a b c hl d
theorem jG.toRX (h:jG g f.prot ((f.L,m)::f.outs) f.keep H s e cls) (hl:jc g f.slots loc m):zF g f ⟨loc,H⟩ s e cls:=by
 refine ZF h λu N a b c d x=>?_
 exact xI m u N a b c hl d x
theorem ka
  (h:qs g k hd fv xs kvs H₁ Q E') (p:H.Perm (H₁++H₂)):qs g k hd fv xs kvs H (λx H'=>∃F,H'=F++H₂/\Q x F) (λx H'=>∃F,H'=F++H₂/\E' x F):=by
 intro prot nss frames keep A s vs kw hC hh hG hv hk
 refine xW (hG.perm p) λC N a b c d=>?_
 (refine qk (b.split) λN₁ N₂ z9 b1 b2=>?_;subst z9)
 have a4: ∀q∈C++N₁,q.1∈(C++N₁).map (·.1):=λq m=>yT m
 have fr: ∀b o,prot.get? b=some o->(Dn s.heap ((C++N₁).map (·.1))).get? b=some o:=λb o e=>BL _ (c.stays b o e) λm=>by
  (refine qf (yD.mp m) λq hq a3=>?_;subst a3)
  have:=c.fresh q (by rw [<- yG];exact yA _ hq)
  rw [e] at this;cases this
 have c':Lay (Dn s.heap ((C++N₁).map (·.1))) (C++N₁) s.heap:=
  ⟨by have:=c.nodup;rw [<- yG,yE,Wm] at this;exact this.1,
   λq m=>c.there q (by rw [<- yG];exact yA _ m),λq m=>Fm _ (a4 q m),λb o e=>of_hideAll _ e,c.big.elim λb zf=>zf.elim λo zf=>zf.elim λhb e=>(qU b o hb (fr _ _ e)),λq m=>c.low q (by rw [<- yG];exact yA _ m)⟩
 have X: ∀q∈N₂,(Dn s.heap ((C++N₁).map (·.1))).get? q.1=some q.2:=λq hq=>BL _ (c.there q (by rw [<- yG];exact yx _ hq)) λm=>by
  have:=c.nodup
  rw [<- yG,yE,Wm] at this
  exact this.2.2 _ m _ (yT hq) rfl
 have I: ∀{u N':List (yu × Obj)} {h':W0},Lay (Dn s.heap ((C++N₁).map (·.1))) (u++N') h'->Lay prot (u++(N'++N₂)) h':=λ{u N' h'} l'=>by
  rw [<- yG]
  refine ⟨?_,λq m=>?_,λq m=>?_,λb o e=>l'.stays b o (fr b o e),c.big,λq m=>(yR.mp m).elim (l'.low q) λm=>c.low q (by rw [<- yG];exact yx _ m)⟩
  ·rw [yE,Wm]
   refine qy l'.nodup ?_ (λx hx y hy e=>?_)
   ·have:=c.nodup
    rw [<- yG,yE,Wm] at this
    exact this.2.1
   ·(refine qf (yD.mp hx) λq hq a2=>?_;subst a2)
    (refine qf (yD.mp hy) λt ht a1=>?_;subst a1)
    have h1:=l'.fresh q hq
    rw [e,X t ht] at h1;cases h1
  ·refine Or.elim (yR.mp m) (λm=>?_) λm=>?_
   ·exact l'.there q m
   ·exact l'.stays _ _ (X q m)
  ·refine Or.elim (yR.mp m) (λm=>?_) λm=>?_
   ·cases e:prot.get? q.1 with
    |none=>rfl
    |some o=>have:=l'.fresh q m;rw [fr _ _ e] at this;cases this
   ·exact c.fresh q (by rw [<- yG];exact yx _ m)
 have back: ∀H' s',xE g (Dn s.heap ((C++N₁).map (·.1))) nss H' s'->xE g prot nss (H'++H₂) s':=λH' s' J=>by
  refine xW J λu N' a' b' l' d'=>?_
  exact Qi u (N'++N₂) a' (b'.append b2) (I l') d'
 have Z: ∀H' s' e cls,jG g (Dn s.heap ((C++N₁).map (·.1))) nss keep H' s' e cls->jG g prot nss keep (H'++H₂) s' e cls:=λH' s' e cls J=>by
  refine ZF J λu N' a' b' l' d' x'=>?_
  refine ZW u (N'++N₂) a' (b'.append b2) (I l') d' (x'.re (λa ha=>(qa ?_ (λhm=>?_))) λa ha=> .inl ha)
  ·cases q:prot.get? a with
   |none=>rfl
   |some o=>have:=ha.1;rw [fr _ _ q] at this;cases this
  ·rw [<- yG,yE] at hm
   refine Or.elim (yR.mp hm) (λhm=>?_) λhm=>?_
   ·exact ha.2 hm
   ·(refine qf (yD.mp hm) λq hq a0=>?_;subst a0)
    have:=ha.1;rw [X q hq] at this;cases this
 refine B3 (h _ nss frames keep A s vs kw ⟨hC.frames,hC.units,hC.depth,λb o e=>fr b o (hC.base b o e),(by have:=hC.hdc;revert this;cases A.handled with|none=>exact id|some v=>exact λc=>c.keep (je.of fr)),hC.fun_,hC.guards⟩ hh (Qi C N₁ a b1 c' d) hv hk) λr s' hr=>?_
 cases r with
 |ok fl=>
  cases fl with
  |ret v=>refine qk hr λx H' k1 k2 k3=>?_;exact qe x _ k1 (back H' s' k2) (qj H' rfl k3)
  |next=>exact hr.elim
  |brk=>exact hr.elim
  |cont=>exact hr.elim
 |error e=>
  refine qk hr λx H' k1 k2 k3=>?_
  exact qe x _ k1 (Z _ _ _ _ k2) (qj H' rfl k3)
theorem uZ (ok:FOk g f) (hA:AOk f n A) (hk:n<=k):COk g k f.prot ((f.L,m)::f.outs) f.frames f.keep A:=
 ⟨hA.frames,yX hA.units hk,yX hA.depth hk,ok.base,(by rw [hA.hd];exact ok.hd),λe he=>let ⟨a,b,c,d⟩:=ok.fun_ e he;(qa a (qj b c (d.elim (λe=>e ▸ .head _) (.tail _)))),hA.guards⟩
theorem Zj (ok:FOk g f) (hk:n<=k) {Q:QV}
  (h:qs g k f.hd fv xs kvs H₁ Q' E') (p:σ.H.Perm (H₁++H₂)) (hv:VRs g xs vs) (hw:KWR g kvs kw)
  (hQ: ∀x H',Q' x H'->Q x {σ with H:=H'++H₂}) (hE: ∀x H',E' x H'->E x {σ with H:=H'++H₂}):W g f n (VR g) (call fv vs kw) Q E σ:=λA s hA hs=>by
 refine qf (hs.toG) λm hG hL=>?_
 refine Dv (B3 (ka h p f.prot _ f.frames f.keep A s vs kw (uZ ok hA hk) hA.hd hG hv hw) λr s' hr=>?_)
 cases r with
 |ok fl=>
  cases fl with
  |ret v=>(refine qk hr λx H' k1 k2 I=>?_;refine qf I λu J k3=>?_;clear hr;subst J);exact qe x _ k1 (k2.toR hL) (hQ x u k3)
  |next=>exact hr
  |brk=>exact hr
  |cont=>exact hr
 |error e=>
  (refine qk hr λx H' k1 k2 C=>?_;refine qf C λu F k4=>?_;clear hr;subst F)
  exact qe x _ k1 (k2.toRX hL) (hE x u k4)
end
theorem KWR.keys {as}: ∀{es},KWR g as es->es.map (·.1)=as.map (λp=>g.nm p.1):=by
 induction as with
 |nil=>
  exact @λoo h=>by obtain rfl:=h;rfl
 |cons hd tl ih=>
  exact @λoo h=>by (refine qk h λv r C u h2=>?_;clear h;subst C;obtain ⟨_,e,_⟩:=u);rw [yH,yH,ih h2,e]
theorem KWR.lts {as}: ∀{es},KWR g as es->∀p∈as,p.1<g.tab.length:=by
 induction as with
 |nil=>
  exact @λoo h p m=>nomatch m
 |cons hd tl ih=>
  exact @λoo h p m=>by
   (refine qk h λv r C u h2=>?_;clear h;subst C;obtain ⟨h1,_⟩:=u)
   rcases yy.mp m with rfl|m
   ·exact h1
   ·exact ih h2 p m
theorem wH {α:Type} {x y:α} {l:List (Nat × α)} (e:List.lookup i ((j,y)::l)=some x):(i=j/\y=x)\/(i≠j/\l.lookup i=some x):=by
 by_cases h:i=j
 ·subst h;rw [Do] at e;exact .inl ⟨rfl,Wc.inj e⟩
 ·refine .inr ⟨h,?_⟩
  rw [Bf,beq_false_of_ne h] at e;exact e
theorem KWR.get {as}: ∀{es},KWR g as es->∀{i x},as.lookup i=some x->∃v,(g.nm i,v)∈es/\VR g x v:=by
 induction as with
 |nil=>
  exact @λoo h i x e=>nomatch e
 |cons hd tl ih=>
  obtain ⟨j,y⟩:=hd
  exact @λoo h i x e=>by
   (refine qk h λF r C u h2=>?_;clear h;obtain ⟨k,v⟩:=F;subst C;obtain ⟨_,e1,h1⟩:=u)
   rcases wH e with ⟨rfl,rfl⟩|⟨_,e⟩
   ·cases e1
    exact qj _ (.head _) h1
   ·refine qf (ih h2 e) λv k1 k2=>?_;exact qj v (.tail _ k1) k2
theorem XD {α:Type} {l:List (Nat × α)}: ∀{i:Nat},l.lookup i=none->i ∉ l.map (·.1):=by
 induction l with
 |nil=>
  exact @λi oo=>by simp
 |cons hd r ih=>
  obtain ⟨j,x⟩:=hd
  exact @λi h=>by
   by_cases e:i=j
   ·subst e;rw [Do] at h;cases h
   ·rw [Bf,beq_false_of_ne e] at h
    rw [yH,yy,not_or]
    exact ⟨e,ih h⟩
theorem kD {mg mb} (gk:GOk g mg mb) {l:List Nat}:(∀i∈l,i<g.tab.length)->l.Nodup->(l.map g.nm).Nodup:=by
 induction l with
 |nil=>
  exact @λoo oo=>WW
 |cons i r ih=>
  exact @λh n=>by
   rw [Wd] at n
   rw [yH,Wd]
   refine qa (λm=>?_) (ih (λj hj=>h j (.tail _ hj)) n.2)
   refine qf (yD.mp m) λj hj e=>?_
   have:=G.nm_inj gk (h j (.tail _ hj)) (h i (.head _)) e
   subst this
   exact n.1 hj
theorem Uk {kindOf:Str->Option WD}: ∀{m:Str->Option yr} {k:Str},k ∉ bs.map (·.1)->bindL kindOf bs m k=m k:=by
 induction bs with
 |nil=>
  exact @λoo oo oo=>rfl
 |cons hd r ih=>
  obtain ⟨n,v⟩:=hd
  exact @λm k h=>by
   rw [yH,yy,not_or] at h
   unfold bindL
   rw [ih h.2]
   split
   ·exact if_neg h.1
   ·rfl
theorem Ua {kindOf:Str->Option WD} (hk:kindOf k=some .local): ∀{bs:List (Str × yr)} {m:Str->Option yr},(bs.map (·.1)).Nodup->(k,v)∈bs->bindL kindOf bs m k=some v:=by
 intro bs
 induction bs with
 |nil=>intro _ _ h;cases h
 |cons q r ih=>
  obtain ⟨n,u⟩:=q
  intro m nd h
  rw [yH,Wd] at nd
  unfold bindL
  refine Or.elim (yy.mp h) (λe=>?_) λh=>?_
  ·cases e
   rw [Uk nd.1,if_pos hk]
   exact if_pos rfl
  ·exact ih nd.2 h
theorem Za {kindOf:Str->Option WD}: ∀{m:Str->Option yr} {k:Str},k ∉ bs.map (·.1)->bindC kindOf bs m k=m k:=by
 induction bs with
 |nil=>
  exact @λoo oo oo=>rfl
 |cons hd r ih=>
  obtain ⟨n,v⟩:=hd
  exact @λm k h=>by
   rw [yH,yy,not_or] at h
   unfold bindC
   rw [ih h.2]
   split
   ·rfl
   ·exact if_neg h.1
theorem Ui {kindOf:Str->Option WD} (hk:kindOf k≠some .local): ∀{bs:List (Str × yr)} {m:Str->Option yr},(bs.map (·.1)).Nodup->(k,v)∈bs->bindC kindOf bs m k=some v:=by
 intro bs
 induction bs with
 |nil=>intro _ _ h;cases h
 |cons q r ih=>
  obtain ⟨n,u⟩:=q
  intro m nd h
  rw [yH,Wd] at nd
  unfold bindC
  refine Or.elim (yy.mp h) (λe=>?_) λh=>?_
  ·cases e
   rw [Za nd.1,if_neg hk]
   exact if_pos rfl
  ·exact ih nd.2 h
theorem xr {α:Type} {l:List (Str × α)}: ∀{k:Str} {v:α},(l.map (·.1)).Nodup->(k,v)∈l->l.lookup k=some v:=by
 induction l with
 |nil=>
  exact @λk v nd h=>by cases h
 |cons hd r ih=>
  obtain ⟨n,u⟩:=hd
  exact @λk v nd h=>by
   rw [yH,Wd] at nd
   rw [Bf]
   refine Or.elim (yy.mp h) (λe=>?_) λh=>?_
   ·cases e;rw [beq_self_eq_true]
   ·have hb:(k==n)=false:=beq_eq_false_iff_ne.mpr λe=>nd.1 (e ▸ yT (f:=(·.1)) h)
    rw [hb];exact ih nd.2 h
theorem mem_of_lookup {α:Type} {l:List (Nat × α)}: ∀{i:Nat} {v:α},l.lookup i=some v->(i,v)∈l:=by
 induction l with
 |nil=>
  exact @λoo oo h=>by cases h
 |cons hd r ih=>
  obtain ⟨j,x⟩:=hd
  exact @λi v h=>by
   rcases wH h with ⟨rfl,rfl⟩|⟨_,h⟩
   ·exact .head _
   ·exact .tail _ (ih h)
theorem Jh {mg mb} (gk:GOk g mg mb) {u:List Nat}: ∀{as:List yu} {i:Nat} {a:yu},(∀i∈u,i<g.tab.length)->(u.zip as).lookup i=some a->((u.map g.nm).zip as).lookup (g.nm i)=some a:=by
 induction u with
 |nil=>intro as i a _ h;cases h
 |cons c u ih=>
  intro as i a hl h
  cases as with
  |nil=>cases h
  |cons b as=>
   rw [yH,BO]
   rcases wH h with ⟨rfl,rfl⟩|⟨hn,h⟩
   ·exact Do
   ·rw [Bf,beq_false_of_ne λe=>hn (G.nm_inj gk (hl i (.tail _ (List.of_mem_zip (mem_of_lookup h)).1)) (hl c (.head _)) e)]
    exact ih (λj hj=>hl j (.tail _ hj)) h
section
variable {g:G} {f:Fx} {n:Nat} {mg mb:Str->Option yr} {σ:St} {s:yF} {E:QE} {A:y9} {prot:W0} {nss:List (yu × (Str->Option yr))}
theorem Ji {h:W0} {val:Nat->Option V} {l:List (Nat × yu)}:(∀p∈l,∃o,h.get? p.2=some o/\OR g p.2 (.cell (val p.1)) [(p.2,o)])->
  ∃N,HR g (l.map λc=>(c.2,.cell (val c.1))) N/\N.map (·.1)=l.map (·.2)/\∀p∈N,h.get? p.1=some p.2:=by
 induction l with
 |nil=>
  exact @λoo=>(qK [] rfl rfl (λoo m=>(yI m).elim))
 |cons hd r ih=>
  obtain ⟨i,a⟩:=hd
  exact @λh=>by
   refine qf (h (i,a) (.head _)) λo h1 h2=>?_
   obtain ⟨N,k1,k2,k3⟩:=ih λp m=>h p (.tail _ m)
   refine qK ((a,o)::N) (qe [(a,o)] N rfl h2 k1) (by rw [yH,yH,k2]) (λp m=>?_)
   rcases yy.mp m with rfl|m
   ·exact h1
   ·exact k3 p m
theorem xE.laid (hG:xE g prot nss H s) {l:List (Nat × yu)} {val:Nat->Option V}
  (hx:InCall s s.heap.objs.size m s') (hc: ∀p∈l,∃o,s'.heap.get? p.2=some o/\OR g p.2 (.cell (val p.1)) [(p.2,o)]) (nd:(l.map (·.2)).Nodup) (ab: ∀p∈l,s.heap.objs.size<p.2)
  (hf:f.L=s.heap.objs.size) (hp:f.prot=prot) (ho:f.outs=nss) (hl:jc g f.slots loc m):Rep g f ⟨loc,(l.map λc=>(c.2,.cell (val c.1)))++H⟩ s':=by
 refine Jn hG λC N x1 x2 x3 x4 x5 x6=>?_
 refine zk (Ji hc) λN₀ y1 y2 y3=>?_
 refine xF (hx.ns) λo es ep z1 z2 z3 z4=>?_
 (refine XM (hx.same) λh₁ tk a0=>?_;subst a0)
 subst hp ho
 have old: ∀p∈C++N,p.1<s.heap.objs.size:=λp m=>Heap.lt_size (x3.there p m)
 have y4: ∀p∈N₀,s.heap.objs.size<p.1:=λp m=>by
  have:p.1∈l.map (·.2):=y2 ▸ yT m
  refine qf (yD.mp this) λq hq e=>?_
  rw [<- e];exact ab q hq
 have pr: ∀b,s.heap.objs.size<=b->f.prot.get? b=none:=λb hb=>by
  cases q:f.prot.get? b with
  |none=>rfl
  |some o=>exact absurd (Heap.lt_size (x3.stays b o q)) (BK.mpr hb)
 have u:=x3.nodup
 rw [yE,Wm] at u
 refine wj m ((f.L,o)::C) (N₀++N) (.cons (qa rfl (qe es ep z2 z3 z4)) x1) (y1.append x2) ⟨?_,λp hp=>?_,λp hp=>?_,λb o' e=>hx.keep b o' (x3.stays b o' e),x3.big,λp hp=>?_⟩ hl x4 x5 x6
 ·rw [B4,yH,yE,yE,Wd,Wm,Wm]
  refine zQ (λhm=>?_) u.1 (qy (y2 ▸ nd) u.2.1 (λa ha b hb e=>?_)) (λa ha b hb e=>?_)
  ·rw [hf] at hm
   refine Or.elim (yR.mp hm) (λhm=>?_) λhm=>?_
   ·refine qf (yD.mp hm) λp hp e=>?_
    exact absurd (old p (yA _ hp)) (by rw [e];exact WL _)
   ·refine Or.elim (yR.mp hm) (λhm=>?_) λhm=>?_
    ·refine qf (yD.mp hm) λp hp e=>?_
     exact absurd (y4 p hp) (by rw [e];exact WL _)
    ·refine qf (yD.mp hm) λp hp e=>?_
     exact absurd (old p (yx _ hp)) (by rw [e];exact WL _)
  ·(refine qf (yD.mp ha) λp hp Z=>?_;subst Z)
   (refine qf (yD.mp hb) λq hq X=>?_;subst X)
   have h1:=y4 p hp
   have h2:=old q (yx _ hq)
   rw [e] at h1
   exact absurd (Bx h1 h2) (WL _)
  ·(refine qf (yD.mp ha) λp hp J=>?_;subst J)
   refine Or.elim (yR.mp hb) (λhb=>?_) λhb=>?_
   ·(refine qf (yD.mp hb) λq hq I=>?_;subst I)
    have h1:=y4 q hq
    have h2:=old p (yA _ hp)
    rw [<- e] at h1
    exact absurd (Bx h1 h2) (WL _)
   ·(refine qf (yD.mp hb) λq hq F=>?_;subst F)
    exact u.2.2 _ (yT hp) _ (yT hq) e
 ·refine Or.elim (yR.mp hp) (λhp=>?_) λhp=>?_
  ·rcases yy.mp hp with rfl|hp
   ·rw [hf];exact z1
   ·exact hx.keep _ _ (x3.there p (yA _ hp))
  ·refine Or.elim (yR.mp hp) (λhp=>?_) λhp=>?_
   ·exact y3 p hp
   ·exact hx.keep _ _ (x3.there p (yx _ hp))
 ·refine Or.elim (yR.mp hp) (λhp=>?_) λhp=>?_
  ·rcases yy.mp hp with rfl|hp
   ·exact pr _ (Hd hf.symm)
   ·exact x3.fresh p (yA _ hp)
  ·refine Or.elim (yR.mp hp) (λhp=>?_) λhp=>?_
   ·exact pr _ (yV (y4 p hp))
   ·exact x3.fresh p (yx _ hp)
 ·have hb:WV<s.heap.objs.size:=by
   refine qB (x3.big) λb o hb he=>?_
   exact WJ hb (Heap.lt_size (x3.stays _ _ he))
  refine Or.elim (yR.mp hp) (λhp=>?_) λhp=>?_
  ·rcases yy.mp hp with rfl|hp
   ·rw [hf];exact hb
   ·exact x3.low p (yA _ hp)
  ·refine Or.elim (yR.mp hp) (λhp=>?_) λhp=>?_
   ·exact Bx hb (y4 p hp)
   ·exact x3.low p (yx _ hp)
theorem Rep.leave (h:Rep g f σ s) (k:Sub H' σ.H):xE g f.prot f.outs H' s:=by
 refine ja (h.sub k) λm C N x1 x2 x3 oo x4=>?_
 (refine qk x1 λy r u y1 y2=>?_;clear x1;subst u)
 exact Qi _ N y2 x2 (x3.sub (.drop (Sub.refl _))) x4
theorem Sub.mems {l l':List α} (h:Sub l l') {β:Type} {k:α->β} {b:β} (n:b ∉ l'.map k):b ∉ l.map k:=λm=>n (h.map.mem m)
theorem zF.leave (h:zF g f σ s e cls) (k:Sub H' σ.H):jG g f.prot f.outs f.keep H' s e cls:=by
 refine xB h λm C N x1 x2 x3 oo x4 x5=>?_
 refine qf (x2.sub k) λN' y1 y2=>?_
 (refine qk x1 λy r u z1 z2=>?_;clear x1;subst u)
 exact ZW _ N' z2 y1 (x3.sub (.drop ((Sub.refl _).append y2))) x4 (QQ.re (λa ha=>(qa ha.1 (Sub.mems (.drop ((Sub.refl _).append y2)) ha.2))) (λa ha=> .inl ha) x5)
theorem ZY (gk:GOk g mg mb) (ok:FOk g f) (hm:xP (f.nmOf g) lss=true) {Q:V->List (yu × O)->Prop} {E':Ex->List (yu × O)->Prop}
  (hs:Rep g f σ s) (hA:AOk f n A)
  (hw:wSs g f n lss (λfl σ'=>∃x H',(fl= .ret x\/(fl= .next/\x= .none))/\Sub H' σ'.H/\Q x H') (λx σ'=>∃H',Sub H' σ'.H/\E' x H') σ):
  yP g.M A (Dd (xm (f.nmOf g) lss) f.env)
   (λfl s'=>∃x H',VR g x (match fl with| .ret v=>v|_=> .none)/\xE g f.prot f.outs H' s'/\Q x H')
   (λe s'=>yP g.M A (FE f.env e) (λoo C=>∃x H',e= .ref x.addr/\jG g f.prot f.outs f.keep H' C x.addr x.cls/\E' x H') (λe' C=>∃x H',e'= .ref x.addr/\jG g f.prot f.outs f.keep H' C x.addr x.cls/\E' x H') s') s:=by
 refine yK (sSs gk ok lss hm hw A s hA hs) (λfl s' ⟨y,σ',hr,hs',x,H',X,hsub,hq⟩=>?_) λe s' ⟨x,σ',he,hx,H',hsub,hq⟩=>?_
 ·refine qe x H' ?_ (hs'.leave hsub) hq
  rcases X with rfl|⟨rfl,rfl⟩
  ·(refine qf hr λu F h=>?_;clear hr;subst F);exact h
  ·cases hr;exact .none
 ·subst he
  unfold FE
  refine yo (jt ok hA.frames hx λs₂ J=>xo ok J.x λs₃ I oo=>(qe x H' rfl (zF.leave I hsub) hq))
noncomputable def fnC (g:G) (fd:Fa) (slots cids:List Nat):Bool:=
 (fd.scope.isCoroutine==false) && (fd.scope.isGenerator==false) && (fd.scope.kind== .function) && (fd.globals==W7) && (fd.builtins==Db) &&
 decide (slots.Nodup) && slots.all (λi=>decide (i<g.tab.length)) && slots.all (λi=>fd.scope.names.lookup (g.nm i)==some .local) &&
 decide (cids.Nodup) && cids.all (λi=>decide (i<g.tab.length)) && ((Hw 0 fd.scope.names []).map (·.1)==cids.map g.nm) &&
 cids.all (λi=>fd.scope.names.lookup (g.nm i)==some .cell) && (fd.closure.isEmpty||cids.isEmpty) && fd.scope.names.all (λx=>x.2 != .cell|| !cids.isEmpty)
end
structure FnC (g:G) (fd:Fa) (slots cids:List Nat):Prop where
 co:fd.scope.isCoroutine=false
 gen:fd.scope.isGenerator=false
 kind:fd.scope.kind= .function
 gl:fd.globals=W7
 bi:fd.builtins=Db
 nd:slots.Nodup
 lt: ∀i∈slots,i<g.tab.length
 loc: ∀i∈slots,fd.scope.names.lookup (g.nm i)=some .local
 cnd:cids.Nodup
 clt: ∀i∈cids,i<g.tab.length
 cn:(Hw 0 fd.scope.names []).map (·.1)=cids.map g.nm
 cel: ∀i∈cids,fd.scope.names.lookup (g.nm i)=some .cell
 clo:fd.closure=[]\/cids=[]
 noc:cids=[]->∀x∈fd.scope.names,x.2≠.cell
theorem XQ (h:fnC g fd slots cids=true):FnC g fd slots cids:=by
 unfold fnC at h
 simp only [BI,decide_eq_true_eq,beq_iff_eq,yY,Hx,List.isEmpty_iff] at h
 (refine qc h λu C=>?_;obtain ⟨⟨⟨⟨⟨⟨⟨⟨⟨⟨⟨⟨a1,a2⟩,a3⟩,a4⟩,a5⟩,a6⟩,a7⟩,a8⟩,a9⟩,X⟩,J⟩,I⟩,F⟩:=u)
 refine ⟨a1,a2,?_,a4,a5,a6,a7,a8,a9,X,J,I,F,λe x hx=>?_⟩
 ·cases hk:fd.scope.kind<;>rw [hk] at a3<;>first|rfl|cases a3
 ·refine Or.elim (C x hx) (λh=>?_) λh=>?_
  ·simpa using h
  ·rw [e] at h;cases h
section
variable {g:G} {f:Fx} {n:Nat} {mg mb:Str->Option yr} {σ:St} {s:yF} {E:QE} {A:y9} {prot:W0} {nss:List (yu × (Str->Option yr))}
theorem wu {α:Type} {l:List α} (h:l.Nodup):l.reverse.Nodup:=(List.reverse_perm l).nodup_iff.mpr h
theorem YS (l:List (Str × yu)):(l.map (·.1)).zip (l.map (·.2))=l:=by
 induction l with
 |nil=>
  exact rfl
 |cons p r ih=>
  exact by rw [yH,yH,BO,ih]
theorem JR: ∀{u:List Nat} {as:List yu},as.length=u.length->(u.zip as).map (·.2)=as
 |[],[],_=>rfl
 |[],_::_,h=>by cases h
 |_::_,[],h=>by cases h
 |c::r,a::t,h=>by rw [BO,yH,JR (by simpa using h)]
theorem vW {u:List Nat}: ∀{as:List yu} {p:Nat × yu},p∈u.zip as->p.1∈u/\p.2∈as:=by
 induction u with
 |nil=>intro as p h;cases h
 |cons c r ih=>
  intro as p h
  cases as with
  |nil=>cases h
  |cons a t=>
   rw [BO] at h
   refine Or.elim (yy.mp h) (λh=>?_) λh=>?_
   ·subst h;exact qa (.head _) (.head _)
   ·exact qa (.tail _ (ih h).1) (.tail _ (ih h).2)
theorem Z7 {u:List Nat}: ∀{as:List yu} {p:Nat × yu},p∈u.zip as->(g.nm p.1,p.2)∈(u.map g.nm).zip as:=by
 induction u with
 |nil=>intro as p h;cases h
 |cons c r ih=>
  intro as p h
  cases as with
  |nil=>cases h
  |cons a t=>
   rw [BO] at h
   rw [yH,BO]
   refine Or.elim (yy.mp h) (λh=>?_) λh=>?_
   ·subst h;exact .head _
   ·exact .tail _ (ih h)
theorem QB: ∀{l:List Nat} {i k:Nat},l[i]? =some k->lk (l.map φ) i=φ k
 |[],_,_,h=>by simp at h
 |a::r,0,k,h=>by cases h;rfl
 |a::r,i+1,k,h=>QB (l:=r) (by simpa using h)
theorem kW (gk:GOk g mg mb) {ps:List (Nat × V)} (hb:KWR g ps binds) (hm: ∀k v,(k,v)∈binds->∀i∈slots,g.nm i=k->m k=some v):
  jc g slots (slots.map (ps.lookup ·)) m:=λi k x h1 h2=>by
 have u:ps.lookup k=some x:=(QB h1).symm.trans h2
 refine qf (hb.get u) λv k1 k2=>?_
 exact qj v (hm _ _ k1 k (yC h1) rfl) k2
theorem qs.of_body (gk:GOk g mg mb) {a8 ps:List (Nat × V)}
  (ho:g.K.lookup fa=some ⟨oc,od,.func fd,osl⟩) (ax:codeIn g.K fd.code fd.qualname=true) (a5:fd.body= .stmts (xm ⟨g.tab,fd.scope.names,slots⟩ lss)) (hc:fnC g fd slots cids=true) (hm:xP ⟨g.tab,fd.scope.names,slots⟩ lss=true)
  (a1:k<W1)
  (a7: ∀s vs kw,g.base.StaysIn s.heap->VRs g xs vs->KWR g a8 kw->∃u,BindsTo s fd ⟨vs,kw⟩ u/\KWR g ps u)
  (am:(ps.map (·.1)).Nodup) (ac: ∀p∈ps,p.1∈slots\/p.1∈cids)
  (hw: ∀f as,FOk g f->f.env.scope=fd.scope/\f.env.code=fd.code->f.slots=slots->f.cells=cids.zip as->as.length=cids.length->f.hd=hd->
   wSs g f (k+3) lss (λfl σ'=>∃x H',(fl= .ret x\/(fl= .next/\x= .none))/\Sub H' σ'.H/\Q x H') (λx σ'=>∃H',Sub H' σ'.H/\E' x H')
    ⟨slots.map (ps.lookup ·),((cids.zip as).map λc=>(c.2,.cell (ps.lookup c.1)))++H⟩):
  qs g k hd (.ref fa) xs a8 H Q E':=by
 intro prot nss frames keep A s vs kw hC hh hG hv hk
 have C:=XQ hc
 have J:g.base.StaysIn s.heap:=by
  refine xW hG λoo oo oo oo c oo=>?_
  exact λb o e=>c.stays b o (hC.base b o e)
 refine qf (a7 s vs kw J hv hk) λu ay F=>?_
 have KX:g.K.In s.heap:=λa o e=>J a o (gk.k a o e)
 have a6:(u.map (·.1)).Nodup:=by
  rw [F.keys]
  have:=kD gk (l:=ps.map (·.1)) (λi hi=>by
   (refine qf (yD.mp hi) λp hp aj=>?_;subst aj)
   exact F.lts p hp) am
  rwa [DO] at this
 have X:A.depth<W1:=WJ hC.depth a1
 -- what runs once the frame stands
 have run: ∀(env:Env) (as:List yu) (s':yF) (m:Str->Option yr),env=Bu fd.scope s.heap.objs.size fd.globals env.cells (fd.qualname++".<locals>.") (some fa) fd.code none fd.builtins->
   (∀i a,(cids.zip as).lookup i=some a->env.cells.lookup (g.nm i)=some a)->as.length=cids.length->InCall s s.heap.objs.size m s'->(∀p∈cids.zip as,∃o,s'.heap.get? p.2=some o/\OR g p.2 (.cell (ps.lookup p.1)) [(p.2,o)])->
   as.Nodup->(∀p∈cids.zip as,s.heap.objs.size<p.2)->jc g slots (slots.map (ps.lookup ·)) m->
   yP g.M (A.deeper env) (Dd (xm ⟨g.tab,fd.scope.names,slots⟩ lss) env)
    (λfl s'=>∃x H',VR g x (match fl with| .ret v=>v|_=> .none)/\xE g prot nss H' s'/\Q x H')
    (λe s'=>yP g.M (A.deeper env) (FE env e) (λoo a0=>∃x H',e= .ref x.addr/\jG g prot nss keep H' a0 x.addr x.cls/\E' x H') (λe' a0=>∃x H',e'= .ref x.addr/\jG g prot nss keep H' a0 x.addr x.cls/\E' x H') s') s':=by
  intro env as s' m he aw ag hx av aq az hL
  have e1:env.scope=fd.scope:=by rw [he];rfl
  have e2:env.locals=s.heap.objs.size:=by rw [he];rfl
  have e3:env.frame=some s.heap.objs.size:=by rw [he];rfl
  have e4:env.globals=W7:=by rw [he];exact C.gl
  have e5:env.builtins=Db:=by rw [he];exact C.bi
  let f:Fx:=⟨env,s.heap.objs.size,slots,cids.zip as,prot,env::frames,nss,hd,keep⟩
  have ok:FOk g f:=by
   refine ⟨by rw [show f.env=env from rfl,e1];exact C.kind,e2,e4,e5,C.nd,C.lt,aw,hC.base,(by have:=hC.hdc;rw [hh] at this;exact this),(qU env frames rfl rfl),λe a4=>?_⟩
   rcases yy.mp a4 with rfl|a4
   ·exact qa (by rw [e1,C.kind];decide) (qj _ e3 (.inl rfl))
   ·(refine qc (hC.fun_ e a4) λq1 ai=>?_;refine qf ai λb q2 q3=>?_)
    exact qa q1 (qj b q2 (.inr q3))
  have hA:AOk f (k+3) (A.deeper env):=⟨Around.frames_deeper hC.frames,yU hC.units 3,by show A.depth+1<=k+3;have:=hC.depth;exact (qq [.nl VA VB] (.nl (.a VA KB) (.a VB KD)) rfl this),hh,hC.guards⟩
  have hN:f.nmOf g=⟨g.tab,fd.scope.names,slots⟩:=by show Nm.mk g.tab env.scope.names slots=_;rw [e1]
  rw [<- hN] at hm |-
  have hz:((cids.zip as).map (·.2)).Nodup:=by rw [JR ag];exact aq
  exact ZY gk ok hm (hG.laid (f:=f) (l:=cids.zip as) (val:=(ps.lookup ·)) hx av hz az rfl rfl rfl hL) hA (hw f as ok (qa e1 (by show env.code=_;rw [he];rfl)) rfl rfl ag rfl)
 refine codeAny_call_function X (KX _ _ ho) rfl C.co C.gen a5 (codeRec_of KX ax) (ay _ _ _ _ ?_)
 rcases hcc:cids with _|⟨c0,cr⟩
 ·-- no cells of its own
  subst hcc
  have af: ∀x∈u,fd.scope.names.lookup x.1=some .local:=λx hx=>by
   have:x.1∈u.map (·.1):=yT hx
   rw [F.keys] at this
   refine qf (yD.mp this) λp hp e=>?_
   rw [<- e]
   refine Or.elim (ac p hp) (λh=>?_) λh=>?_
   ·exact C.loc _ h
   ·cases h
  refine By (C.noc rfl) af (λh₀ an aa=>(qa ((gk.nolimit.keeps J).fresh _ aa) (codeAny_func ?_))) C.kind
  refine yK (run (Bu fd.scope s.heap.objs.size fd.globals fd.closure (fd.qualname++".<locals>.") (some fa) fd.code none fd.builtins) [] _ _ rfl (λi a h=>nomatch h) rfl
   ⟨(jH _ _ rfl),an,λb o e=>aa.extBut b o (BP (Heap.lt_size e)) (Heap.get?_push_of_some _ e),yM _⟩ (λp hp=>(yI hp).elim) WW (λp hp=>(yI hp).elim)
   (kW gk F λak v a2 i hi e=>xr (by rw [Hh];exact wu a6) (Hi.mpr a2))) (λfl s' h=>h) λe s' h=>h
 ·-- with cells
  have ap:cids≠[]:=by rw [hcc];exact List.cons_ne_nil _ _
  have hclo:fd.closure=[]:=C.clo.resolve_right ap
  rw [hclo]
  have cn: ∀n,(Hw n fd.scope.names []).map (·.1)=cids.map g.nm:=λn=>(cellsFrom_names fd.scope.names n 0 [] [] rfl).trans C.cn
  have a3: ∀x∈u,fd.scope.names.lookup x.1=some .local\/(fd.scope.names.lookup x.1=some .cell/\((Hw (s.heap.objs.size+1) fd.scope.names []).lookup x.1).isSome=true):=λx hx=>by
   have:x.1∈u.map (·.1):=yT hx
   rw [F.keys] at this
   refine qf (yD.mp this) λp hp e=>?_
   rw [<- e]
   refine Or.elim (ac p hp) (λh=>?_) λh=>?_
   ·exact .inl (C.loc _ h)
   ·exact .inr (qa (C.cel _ h) (cellsFrom_some _ _ _ (.inl (C.cel _ h))))
  refine wpAny_newFunctionEnv_cells C.kind a3 λenv he s' x=>?_
  have a9: ∀b o,s.heap.get? b=some o->s'.heap.get? b=some o:=x.toInCall.keep
  refine qa ((gk.nolimit.keeps J).keeps a9) (codeAny_func ?_)
  have e1:env.scope=fd.scope:=by rw [he];rfl
  have Z:env.cells=Hw (s.heap.objs.size+1) fd.scope.names []:=by rw [he];rfl
  have ah: ∀y,env.kindOf y=fd.scope.names.lookup y:=λy=>by show env.scope.names.lookup y=_;rw [e1]
  have x':=x
  rw [Z] at x'
  have ez:env.cells=(cids.map g.nm).zip (env.cells.map (·.2)):=by rw [Z,<- cn,YS]
  have au:(env.cells.map (·.2)).length=cids.length:=by
   have:=congrArg HB (cn (s.heap.objs.size+1))
   rw [Z];simpa using this
  have ar:(env.cells.map (·.1)).Nodup:=by rw [Z,cn];exact kD gk C.clt C.cnd
  refine run env (env.cells.map (·.2)) s' (bindL env.kindOf u λoo=>none) (by rw [he];rfl) (λi a h=>?_) au (by have:=x.toInCall;rw [he] at this |-;exact this) (λp hp=>?_) ?_ (λp hp=>?_) ?_
  ·rw [ez];exact Jh gk C.clt h
  ·have I:(g.nm p.1,p.2)∈env.cells:=by rw [ez];exact Z7 hp
   refine qf (x.cell _ _ (xr ar I)) λo h1 h2=>?_
   refine qj o h1 ?_
   have ae:=(vW hp).1
   have ao:env.kindOf (g.nm p.1)≠some .local:=by rw [ah,C.cel _ ae];decide
   cases hq:ps.lookup p.1 with
   |none=>
    have:g.nm p.1 ∉ u.map (·.1):=λhm=>by
     rw [F.keys] at hm
     refine qf (yD.mp hm) λq ab al=>?_
     have:=G.nm_inj gk (F.lts q ab) (C.clt _ ae) al
     exact XD hq (this ▸ yT ab)
    rw [Za this] at h2
    exact qj o h2 rfl
   |some y=>
    refine qf (F.get hq) λv k1 k2=>?_
    rw [Ui ao a6 k1] at h2
    exact qe v o k2 h2 rfl
  ·have:=x.apart
   rw [List.nodup_iff_pairwise_ne,List.pairwise_map]
   exact this
  ·have I:(g.nm p.1,p.2)∈env.cells:=by rw [ez];exact Z7 hp
   have:=x.above _ _ I
   rw [he] at this;exact this
  ·refine kW gk F λak v a2 i hi e=>Ua ?_ a6 a2
   rw [ah,<- e];exact C.loc _ hi
end
end
noncomputable section
theorem jZ {Q:QV}
  (hk: ∀A s,AOk f n A->Rep g f σ s->∃k,(k=Keeper.frame\/k=Keeper.machine\/k=Keeper.boundFrame)/\Bv g.M s.heap (keeperOf a) k)
  (h:W g f n (VR g) (call a vs kw) Q E σ):W g f n (VR g) (zb few a vs kw) Q E σ:=λA s hA hs=>by
 refine qf (hk A s hA hs) λk C L=>?_
 unfold zb
 refine yo (L.here ?_)
 have tail: ∀{t:Sem yr},W g f n (VR g) t Q E σ->yP g.M A (t>>=λr=>holding [r] point>>=λoo=>pure r) (λv s'=>∃x σ',VR g x v/\Rep g f σ' s'/\Q x σ') (EP g f E) s:=
  λht=>yo (yK (ht A s hA hs) (λr s₂ hr=>yo (Wr (DA (yB hr)))) λoo oo x=>x)
 have u (mk:yr):W g f n (VR g) (DW mk a vs kw) Q E σ:=λA s hA hs=>by unfold DW;exact Calls.wpAny_keep (h A s hA hs)
 rcases C with rfl|rfl|rfl<;>dsimp only<;>first|exact tail h|(cases few<;>first|exact tail h|exact tail (u _))
section
variable {g:G} {f:Fx} {n:Nat} {mg mb:Str->Option yr} {σ:St} {s:yF} {E:QE} {Q:QV} {i j:Int}
theorem qb.of_fn (gk:GOk g mg mb) (ok:FOk g f) (hk:n<=k)
  (C:keepIn g.K fv=true) (h:qs g k f.hd fv xs u H₁ Q' E') (p:σ.H.Perm (H₁++H₂))
  (hQ: ∀x H',Q' x H'->Q x {σ with H:=H'++H₂}) (hE: ∀x H',E' x H'->E x {σ with H:=H'++H₂}):qb g f n (.fix fv) xs u Q E σ:=
 Op.mk λF a vs kw ha hv hw=>by
  cases ha
  exact jZ (λA s hA hs=>keeps_K C s.heap (hs.kin gk ok)) (Zj ok hk h p hv hw hQ hE)
noncomputable def noref:yr->Bool
 | .ref _=>false
 |_=>true
theorem qb.of_builtin (hr:noref fv=true)
  (h: ∀vs kw,VRs g xs vs->KWR g kvs kw->W g f n (VR g) (call fv vs kw) Q E σ):qb g f n (.fix fv) xs kvs Q E σ:=
 Op.mk λu a vs kw ha hv hw=>by
  cases ha
  refine jZ (λA s hA hs=>(qj (.machine) (.inr (.inl rfl)) ?_)) (h vs kw hv hw)
  have:keeperOf fv=pure .machine:=by cases fv<;>first|rfl|cases hr
  rw [this];exact .now
theorem AR.noref {at'}: ∀{es},AR g at' es->es.any (·.refKey)=false:=by
 induction at' with
 |nil=>
  exact @λoo h=>by obtain rfl:=h;rfl
 |cons hd tl ih=>
  exact @λoo h=>by
   (refine qk h λv r C u h2=>?_;clear h;subst C;obtain ⟨_,_,hh,t,e⟩:=u)
   rw [D8,ih h2,e];rfl
theorem j3:(Value.str a t).isStr b=(a==b):=rfl
theorem AR.find (gk:GOk g mg mb) {i:Nat} (hi:i<g.tab.length): ∀{at' es},AR g at' es->(∀x,at'.lookup i=some x->∃v,getL (g.nm i) es=some (some v)/\VR g x v)/\(at'.lookup i=none->getL (g.nm i) es=some none):=by
 intro at'
 induction at' with
 |nil=>intro es h;obtain rfl:=h;exact qa (λx e=>(nomatch e)) (λoo=>rfl)
 |cons q as ih=>
  obtain ⟨j,y⟩:=q
  intro es h
  (refine qk h λF es C u h3=>?_;clear h;obtain ⟨hh,I,v⟩:=F;subst C;obtain ⟨h1,h2,J,t,e⟩:=u)
  cases e
  by_cases e:i=j
  ·subst e
   rw [Bf,beq_self_eq_true]
   refine qa (λx e=>?_) (λe=>nomatch e)
   obtain rfl:=Wc.inj e
   refine qj v ?_ h2
   unfold getL
   rw [Fo,show (Value.str (g.nm i) t).isStr (g.nm i)=true from (j3).trans (beq_self_eq_true _)]
  ·have ne:¬ g.nm j=g.nm i:=λq=>e (G.nm_inj gk hi h1 q.symm)
   have b1:(i==j)=false:=beq_eq_false_iff_ne.mpr e
   have b2:(Value.str (g.nm j) t).isStr (g.nm i)=false:=(j3).trans (beq_eq_false_iff_ne.mpr ne)
   have b3:getL (g.nm i) (⟨hh,.str (g.nm j) t,v⟩::es)=getL (g.nm i) es:=by
    unfold getL
    rw [Fo,b2,D8]
    rfl
   rw [Bf,b1,b3]
   exact ih h3
noncomputable def vi:V->Bool
 | .fix v=>handedIn v
 |_=>true
theorem Ya (h:VR g x v) (e:vi x=true):handedIn v=true:=by
 cases x<;>first|(cases h;first|rfl|exact e)|((refine qA h λoo F=>?_;clear h;subst F);rfl)|((refine qc h λoo u=>?_;refine qA u λoo C=>?_;clear h;subst C);rfl)
noncomputable def ownC (K:B0) (C:yu) (name:Str):Bool:=plainGet K C name && hasDictIn K C && (FO K (.ref C) name==some none)
theorem zT.own (gk:GOk g mg mb) (ok:FOk g f) {i:Nat} (hm:(a,.inst C at' kx)∈σ.H) (hi:i<g.tab.length) (hl:at'.lookup i=some x) (hc:ownC g.K C (g.nm i)=true) (hv:vi x=true)
  (h:Q x σ):zT g f n (.ref a) i Q E σ:=Op.mk λv u A s hA hs=>by
 obtain rfl:=u
 refine Xs (hs.inst hm) λdx es k k1 I=>?_
 refine qc (qh hc) λc1 c3=>?_
 refine qc (qh c1) λc1 c2=>?_
 refine qf ((AR.find gk hi k1).1 x hl) λv k2 k3=>?_
 exact get_value (hs.kin gk ok) I (HC c1).1 (findObj_own c2 (eq_of_beq c3) rfl (by rw [lookIn_dict];exact k2)) (Ya k3 hv) (qe x σ k3 (hs.toks _) h)
noncomputable def vZ (K:B0) (C:yu) (name:Str) (v:yr):Bool:=plainGet K C name && hasDictIn K C && (FO K (.ref C) name==some (some v)) && (specialIn K v "__get__"==some none) && handedIn v && !copiedNames.contains name
theorem zT.cls (gk:GOk g mg mb) (ok:FOk g f) {i:Nat} (hm:(a,.inst C at' kx)∈σ.H) (hi:i<g.tab.length) (hl:at'.lookup i=none) (hc:vZ g.K C (g.nm i) v=true) (hx:VR g x v)
  (h:Q x σ):zT g f n (.ref a) i Q E σ:=Op.mk λw hw A s hA hs=>by
 obtain rfl:=hw
 refine Xs (hs.inst hm) λdx es k k1 I=>?_
 unfold vZ at hc
 simp only [BI,beq_iff_eq,F2] at hc
 (refine qc hc λu c6=>?_;obtain ⟨⟨⟨⟨c1,c2⟩,c3⟩,c4⟩,c5⟩:=u)
 exact get_value (hs.kin gk ok) I (HC c1).1 (findObj_cls c2 c3 c4 c5 c6 (by rw [lookIn_dict];exact (AR.find gk hi k1).2 hl)) c5 (qe x σ hx (hs.toks _) h)
noncomputable def ofC (K:B0) (C:yu) (mc:yr) (name:Str) (v:yr):Bool:=readsIn K C mc && (match findCls K (.ref C) mc name with|some (.val a)=>a==v|_=>false) && handedIn v
theorem zT.ofCls (gk:GOk g mg mb) (ok:FOk g f) {i:Nat} (hc:ofC g.K C mc (g.nm i) v=true) (hx:VR g x v) (h:Q x σ):zT g f n (.fix (.ref C)) i Q E σ:=Op.mk λw hw A s hA hs=>by
 cases hw
 refine qc (qh hc) λc0 c3=>?_
 refine qc (qh c0) λc1 c2=>?_
 cases e:findCls g.K (.ref C) mc (g.nm i) with
 |none=>rw [e] at c2;cases c2
 |some a=>
  rw [e] at c2
  cases a<;>first|cases c2;done|skip
  obtain rfl:=eq_of_beq c2
  exact cls_value (hs.kin gk ok) c1 e c3 (qe x σ hx (hs.toks _) h)
noncomputable def ue (K:B0) (C fa:yu) (name:Str):Bool:=plainGet K C name && (FO K (.ref C) name==some (some (.ref fa))) && isFn K (.ref fa)
theorem zE.inst (gk:GOk g mg mb) (ok:FOk g f) {i:Nat} {Q:V × List V->St->Prop} (hm:(a,.inst C at' kx)∈σ.H) (hi:i<g.tab.length) (hl:at'.lookup i=none) (hc:ue g.K C fa (g.nm i)=true)
  (h:Q (.fix (.ref fa),[.ref a]) σ):zE g f n (.ref a) i Q E σ:=Op.mk λv pl hv A s hA hs=>by
 obtain rfl:=hv
 refine Xs (hs.inst hm) λdx es k k1 I=>?_
 refine qc (qh hc) λc1 c3=>?_
 refine qc (qh c1) λc1 c2=>?_
 refine method_fn (hs.kin gk ok) I (HC c1).1 (HC c1).2 (eq_of_beq c2) (beq_iff_eq.mp c3) ?_ (qe (.fix (.ref fa),[.ref a]) σ (qa (.fix) (.cons .ref .nil)) hs h)
 show (lookIn (g.nm i) (Da es k)).map _=_
 rw [lookIn_dict,(AR.find gk hi k1).2 hl];rfl
theorem xE.cons (h:xE g prot nss H s) (ho:OR g a o N₁) (hl: ∀all,Lay prot all s.heap->Lay prot (N₁++all) h'):xE g prot nss ((a,o)::H) {s with heap:=h'}:=by
 refine xW h λu N x b c d=>?_
 refine Qi u (N₁++N) x (qe N₁ N rfl ho b) ((hl _ c).perm ?_) d
 rw [<- yG,<- yG]
 exact WA.append_right _
theorem xE.push (h:xE g prot nss H s):xE g prot nss ((s.heap.objs.size+1,.inst C [] none)::H) {s with heap:=(s.heap.push Du).push (instObj C s.heap.objs.size)}:=by
 refine h.cons (N₁:=[(s.heap.objs.size+1,instObj C s.heap.objs.size),(s.heap.objs.size,Da [] 0)]) (Yj _ [] 0 rfl rfl) λall L=>?_
 have:=(L.push Du).push (instObj C s.heap.objs.size)
 rwa [Heap.size_push] at this
noncomputable def ug (K:B0) (C fI:yu):Bool:=makesIn K C && (FO K (.ref C) "__init__"==some (some (.ref fI))) && (typeIn K (.ref fI)==some (.type "function"))
theorem qs.make (gk:GOk g mg mb) {Q:V->List (yu × O)->Prop}
  (hc:ug g.K C fI=true) (h: ∀a,qs g (k+1) hd (.ref fI) (.ref a::xs) kvs ((a,.inst C [] none)::H) (λy H'=>y= .none/\Q (.ref a) H') E'):qs g k hd (.ref C) xs kvs H Q E':=by
 intro prot J frames keep A s vs kw hC hh hG hv hk
 refine qc (qh hc) λc1 c3=>?_
 refine qc (qh c1) λc1 c2=>?_
 have Z:g.base.StaysIn s.heap:=by
  refine xW hG λoo oo oo oo c oo=>?_
  exact λb o e=>c.stays b o (hC.base b o e)
 have X:g.K.In s.heap:=λa o e=>Z a o (gk.k a o e)
 have a0:=hG.push (C:=C)
 obtain ⟨F,gg,d,t,os⟩:=s
 refine make_core (makes_of X c1) (looks_findIn X (eq_of_beq c2)) (λu=>bind_fn X u (eq_of_beq c3)) (.inl rfl) ?_
 refine B3 (h (F.objs.size+1) prot J frames keep _ _ (.ref (F.objs.size+1)::vs) kw ⟨hC.frames,yU hC.units 1,yU hC.depth 1,hC.base,hC.hdc,hC.fun_,hC.guards⟩ hh a0 (.cons .ref hv) hk) λr s' hr=>?_
 rcases r with e|(_|_|_|v)
 ·exact hr
 ·exact hr.elim
 ·exact hr.elim
 ·exact hr.elim
 ·(refine xW hr λx H' k1 k2 I k3=>?_;clear hr;subst I)
  obtain rfl:=k1
  exact qa rfl (qe _ H' (.ref) k2 k3)
noncomputable def kc:List (Nat × V)->Nat->V->List (Nat × V)
 |[],i,y=>[(i,y)]
 |(j,x)::r,i,y=>if Nat.beq j i then (i,y)::r else (j,x)::kc r i y
theorem putA_c {i j:Nat}:kc ((j,x)::r) i y=if Nat.beq j i then (i,y)::r else (j,x)::kc r i y:=rfl
theorem YJ {i j:Nat} (h:j=i):kc ((j,x)::r) i y=(i,y)::r:=if_pos (h ▸ Nat.beq_refl _)
theorem Y6 {i j:Nat} (h:j≠i):kc ((j,x)::r) i y=(j,x)::kc r i y:=if_neg λq=>h (Nat.eq_of_beq_eq_true q)
theorem AR.put (gk:GOk g mg mb) {i:Nat} (hi:i<g.tab.length) (hv:VR g y v): ∀{at' es},AR g at' es->AR g (kc at' i y) (putL (g.nm i) hsh (.str (g.nm i) t) v es):=by
 intro at'
 induction at' with
 |nil=>intro es h;obtain rfl:=h;exact .cons (qy hi hv (jH hsh t rfl)) .nil
 |cons q as ih=>
  obtain ⟨j,x⟩:=q
  intro es h
  (refine qk h λF es C u h3=>?_;clear h;obtain ⟨hh,I,w⟩:=F;subst C;obtain ⟨h1,h2,J,t',e⟩:=u)
  cases e
  unfold putL
  by_cases e:j=i
  ·subst e
   rw [YJ rfl,if_pos (show (Value.str (g.nm j) t').isStr (g.nm j)=true from (j3).trans (beq_self_eq_true _))]
   exact .cons (qy h1 hv (jH hh t' rfl)) h3
  ·have ne:¬ g.nm j=g.nm i:=λq=>e (G.nm_inj gk h1 hi q)
   rw [Y6 e,if_neg (by rw [show (Value.str (g.nm j) t').isStr (g.nm i)=false from (j3).trans (beq_eq_false_iff_ne.mpr ne)];decide)]
   exact .cons (qy h1 h2 (jH hh t' rfl)) (ih h3)
noncomputable def setC (K:B0) (C:yu) (name:Str):Bool:=(FO K (.ref C) "__setattr__"==some (some (.builtin "object.__setattr__"))) && plainOver K C && (takerIn K C name==some none) && hasDictIn K C
theorem zr.inst (gk:GOk g mg mb) (ok:FOk g f) {i:Nat} {Q:St->Prop} (u:HU a (.inst C at' kx) (.inst C (kc at' i y) kx) σ.H H') (hi:i<g.tab.length) (hc:setC g.K C (g.nm i)=true)
  (hz:(kc at' i y).length<=1000) (h:Q {σ with H:=H'}):zr g f n (.ref a) i y Q E σ:=Op.mk λw v hw hv A s hA hs=>by
 obtain rfl:=hw
 refine qc (qh hc) λc1 c4=>?_
 refine qc (qh c1) λc1 c3=>?_
 refine qc (qh c1) λc1 c2=>?_
 have c1:=eq_of_beq c1
 have c3:=eq_of_beq c3
 obtain ⟨F,gg,dd,tt,os⟩:=s
 (refine zk (hs.upd u) λoo Z r3 r4=>?_;obtain ⟨dx,es,k,r1,rfl⟩:=Z)
 have r2:=r3 _ (.head _)
 have r3:=r3 (dx,Da es k) (.tail _ (.head _))
 dsimp only at r2 r3 r4
 have I:InstAt F a (kI C dx kx) C (some (Da es k)):=JL r2 r3
 have X:=hs.kin gk ok
 have nx:getL (g.nm i) es≠none:=by
  cases q:at'.lookup i with
  |none=>rw [(AR.find gk hi r1).2 q];exact DE _
  |some x=>refine qf ((AR.find gk hi r1).1 x q) λv z oo=>?_;rw [z];exact DE _
 refine set_plain X I c1 (osa_open (s:=⟨F,gg,dd,tt+1,os⟩) X I c2 c3 λb=>?_)
 refine qf (Hj c4) λcd a1 a0=>?_
 refine yo (yB (yo (yo (FG r2 ?_))))
 rw [kM]
 refine yo ((HD X a1).at ?_)
 rw [a0,Zd]
 refine yB (a:=some dx) (yo (yB (yo ?_)))
 unfold nsSet
 refine yo (yo (wpAny_askSetting (yB (yo (wpAny_mkText (yo (FG r3 ?_)))))))
 dsimp only [Da]
 have c:(!es.toArray.any (·.key.isStr (g.nm i)) && es.toArray.any (·.refKey))=false:=by
  rw [<- Array.any_toList,<- Array.any_toList]
  rw [AR.noref r1,Bool.and_false]
 rw [aRefKeyMayBeTheName_at,c]
 refine wpAny_updatePart r3 ?_
 have D':(F.update dx (Obj.putName (g.nm i) (PyData.keyHash g.w.params (g.nm i)) (.str (g.nm i) (tt+1)) v)).get? dx=some (Da (putL (g.nm i) (PyData.keyHash g.w.params (g.nm i)) (.str (g.nm i) (tt+1)) v es) (putN (g.nm i) es k)):=by
  rw [<- Hk]
  exact Heap.get?_update_self _ r3 (by rw [Hk];rfl)
 have ar:=AR.put gk hi hv (hsh:=PyData.keyHash g.w.params (g.nm i)) (t:=tt+1) r1
 refine yo (wpAny_lookBehind D' (pastItsLine_dict (by rw [yJ,Wp,ar.length];exact (qD [.nl VA KP] (.nl VA (.a KT KB)) rfl hz))) ?_)
 refine yB (qe () _ rfl ((r4 _ _ (Yj dx _ (putN (g.nm i) es k) ar rfl) λprot J L=>?_).toks _) h)
 have sw:=List.Perm.swap (a,kI C dx kx) (dx,Da es k) J
 exact ((L.perm sw.symm).upd (λb x hb e=>(Heap.get?_update_other _ _ (Ne.symm hb)).trans e) D').perm (.swap _ _ _)
end
end
noncomputable section
section
variable {g:G} {f:Fx} {n:Nat} {mg mb:Str->Option yr} {σ:St} {s:yF} {E:QE} {Q:QV} {i j:Int} {op:FC} {co:CmpOp}
/- whole numbers -/
theorem qo.ii (k: ∀{A s t u} {Q:yr->yF->Prop} {E},Q (.int z s.toks) {s with toks:=s.toks+1}->yP g.M A (binaryOp op (.int i t) (.int j u)) Q E s) (h:Q (.int z) σ):qo g f n op (.int i) (.int j) Q E σ:=
 Op.mk λa b ha hb A s hA hs=>by (refine qA ha λoo F=>?_;clear ha;subst F);(refine qA hb λoo C=>?_;clear hb;subst C);exact k (qe _ σ (.int) (hs.toks _) h)
theorem zG.ii (k: ∀{A s t u} {Q:yr->yF->Prop} {E},Q (.int z s.toks) {s with toks:=s.toks+1}->yP g.M A (inplaceOp op (.int i t) (.int j u)) Q E s) (h:Q (.int z) σ):zG g f n op (.int i) (.int j) Q E σ:=
 Op.mk λa b ha hb A s hA hs=>by (refine qA ha λoo F=>?_;clear ha;subst F);(refine qA hb λoo C=>?_;clear hb;subst C);exact k (qe _ σ (.int) (hs.toks _) h)
theorem qm.ii (k: ∀{A s t u} {Q:yr->yF->Prop} {E},Q (.bool z) s->yP g.M A (compareOp co (.int i t) (.int j u)) Q E s) (h:Q (.bool z) σ):qm g f n co (.int i) (.int j) Q E σ:=
 Op.mk λa b ha hb A s hA hs=>by (refine qA ha λoo F=>?_;clear ha;subst F);(refine qA hb λoo C=>?_;clear hb;subst C);exact k (qe _ σ (.bool) hs h)
def MulOk (i j:Int):Prop:=(-18446744073709551616<i/\i<18446744073709551616)\/(-18446744073709551616<j/\j<18446744073709551616)\/IntMulOk i j
theorem MulOk.ok (h:MulOk i j):IntMulOk i j:=h.elim (λh=> .of_left (intBits_le_64 h.1 h.2)) λh=>h.elim (λh=> .of_right (intBits_le_64 h.1 h.2)) id
def YO (j:Int):Prop:=j<9223372036854775808\/j.natAbs.log2<9000
theorem Q2 (h1:0<j) (h2:YO j):Builtin.divisionGoesByPylong i j=false:=by
 refine PyProof.noPylong_of_log2 (h2.elim (λh2=>Bx ((Nat.log2_lt (k:=64) (by exact (λz0=>(LB11 [.zt UA ZA,.ne VA KA,.ze (.c VA) ZA] .ff [0,1,1,-1] rfl h1 z0 (HO (za [.zt UA ZA] (.zl UA ZA) rfl h1)))))).mpr ?_) (by decide)) id)
 have:(2:Nat) ^ 64=18446744073709551616:=by decide
 rw [this];exact (Xm [.zt ZA UU,.ze (.c VA) ZA] (.nt VA (.k 18446744073709551616)) rfl h2 (HO (za [.zt UA ZA] (.zl UA ZA) rfl h1)))
theorem qo.add (h:Q (.int (i+j)) σ):qo g f n .Add (.int i) (.int j) Q E σ:= .ii (λq=>P.add_int q) h
theorem qo.sub (h:Q (.int (i - j)) σ):qo g f n .Sub (.int i) (.int j) Q E σ:= .ii (λq=>P.sub_int q) h
theorem qo.mul (hm:MulOk i j) (h:Q (.int (i*j)) σ):qo g f n .Mult (.int i) (.int j) Q E σ:= .ii (λq=>P.mul_int q hm.ok) h
theorem qo.mod (hj:0<j) (h:Q (.int (i % j)) σ):qo g f n .Mod (.int i) (.int j) Q E σ:= .ii (λq=>mod_int' (H5 hj) (by rw [Int.fmod_eq_emod_of_nonneg _ (H6 hj)];exact q)) h
theorem qo.div (hj:0<j) (hz:YO j) (h:Q (.int (i / j)) σ):qo g f n .FloorDiv (.int i) (.int j) Q E σ:=
 .ii (λq=>AutoIntOps.floordiv_1 (by simpa using H5 hj) (by rw [Q2 hj hz];decide) (by rw [F0 _ (H6 hj)];exact q)) h
theorem qo.pow (hj:0<=j) (hz:(Builtin.Int.intBits i:Int)*j<=2 ^ 27) (h:Q (.int (i ^ j.toNat)) σ):qo g f n .Pow (.int i) (.int j) Q E σ:= .ii (λq=>pow_int hj hz q) h
theorem zG.add (h:Q (.int (i+j)) σ):zG g f n .Add (.int i) (.int j) Q E σ:= .ii (λq=>P.iadd_int q) h
theorem zG.mul (hm:MulOk i j) (h:Q (.int (i*j)) σ):zG g f n .Mult (.int i) (.int j) Q E σ:= .ii (λq=>P.imul_int q hm.ok) h
theorem zG.div (hj:0<j) (hz:YO j) (h:Q (.int (i / j)) σ):zG g f n .FloorDiv (.int i) (.int j) Q E σ:=
 .ii (λq=>AutoIntOps.ifloordiv_1 (by simpa using H5 hj) (by rw [Q2 hj hz];decide) (by rw [F0 _ (H6 hj)];exact q)) h
theorem UnP.neg (h:Q (.int (-i)) σ):UnP g f n .USub (.int i) Q E σ:=Op.mk λa ha A s hA hs=>by (refine qA ha λoo u=>?_;clear ha;subst u);exact P.neg_int (qe _ σ (.int) (hs.toks _) h)
theorem qm.eq (h:Q (.bool (decide (i=j))) σ):qm g f n .Eq (.int i) (.int j) Q E σ:= .ii (λq=>P.eq_int q) h
theorem qm.ne (h:Q (.bool (!decide (i=j))) σ):qm g f n .NotEq (.int i) (.int j) Q E σ:= .ii (λq=>P.ne_int q) h
theorem qm.le (h:Q (.bool (decide (i<=j))) σ):qm g f n .LtE (.int i) (.int j) Q E σ:= .ii (λq=>P.le_int q) h
theorem qm.gt (h:Q (.bool (decide (i>j))) σ):qm g f n .Gt (.int i) (.int j) Q E σ:= .ii (λq=>P.gt_int q) h
theorem qm.ge (h:Q (.bool (decide (i ≥ j))) σ):qm g f n .GtE (.int i) (.int j) Q E σ:= .ii (λq=>P.ge_int q) h
/- None -/
noncomputable def isN:V->Bool
 | .none=>true
 |_=>false
noncomputable def X7:V->Bool
 | .fix _=>false
 |_=>true
theorem YV (h:VR g x v) (hp:X7 x=true):(v== .none)=isN x:=by
 cases x<;>first|(cases h;rfl)|((refine qA h λoo C=>?_;clear h;subst C);rfl)|((refine qc h λoo z0=>?_;refine qA z0 λoo u=>?_;clear h;subst u);rfl)|cases hp
theorem qm.is (hp:X7 x=true) (h:Q (.bool (isN x)) σ):qm g f n .Is x .none Q E σ:=Op.mk λa b ha hb A s hA hs=>by obtain rfl:=hb;exact is_none_gen (by rw [YV ha hp];exact qe _ σ (.bool) hs h)
theorem qm.isnot (hp:X7 x=true) (h:Q (.bool (!isN x)) σ):qm g f n .IsNot x .none Q E σ:=Op.mk λa b ha hb A s hA hs=>by obtain rfl:=hb;exact isnot_none_gen (by rw [YV ha hp];exact qe _ σ (.bool) hs h)
theorem qm.isBool (h:Q (.bool (p==q)) σ):qm g f n .Is (.bool p) (.bool q) Q E σ:=Op.mk λa b ha hb A s hA hs=>by obtain rfl:=ha;obtain rfl:=hb;exact is_bool (qe _ σ (.bool) hs h)
/- truth -/
theorem qt.bool {Q:Bool->St->Prop} (h:Q p σ):qt g f n (.bool p) Q E σ:=Op.mk λa ha A s hA hs=>by obtain rfl:=ha;exact wpAny_truthy_bool (qe _ σ rfl hs h)
theorem UnP.not (h:qt g f n x (λb σ=>Q (.bool (!b)) σ) E σ):UnP g f n .Not x Q E σ:=Op.mk λa ha A s hA hs=>not_value (yK (h.h a ha A s hA hs) (λb s' zf=>zf.elim λx zf=>zf.elim λσ' zf=>zf.elim λe zf=>zf.elim λhs' hq=>by subst e;exact qe _ σ' (.bool) hs' hq) λoo oo e=>e)
/- jz -/
variable {b c:List UInt8}
theorem qo.addB (hz:b.length+c.length<=16777216) (h:Q (.bytes (b++c)) σ):qo g f n .Add (.bytes b) (.bytes c) Q E σ:=Op.mk λx y hx hy A s hA hs=>by
 (refine qA hx λoo z1=>?_;clear hx;subst z1);(refine qA hy λoo z2=>?_;clear hy;subst z2)
 refine KBy.add_bytes (by simpa using hz) λt' k=>?_
 rw [DF]
 exact qe _ σ (.bytes) (hs.toks _) h
theorem qm.neY (h:Q (.bool (b !=c)) σ):qm g f n .NotEq (.bytes b) (.bytes c) Q E σ:=Op.mk λx y hx hy A s hA hs=>by (refine qA hx λoo z3=>?_;clear hx;subst z3);(refine qA hy λoo z4=>?_;clear hy;subst z4);exact ne_bytes (qe _ σ (.bool) hs h)
/- dicts -/
theorem SR.find (gk:GOk g mg mb) {i:Nat} (hi:i<g.tab.length): ∀{es u},SR g es u->(∀x,es.lookup i=some x->∃v,FH u (g.nm i)=some v/\VR g x v)/\(es.lookup i=none->FH u (g.nm i)=none):=by
 intro es
 induction es with
 |nil=>intro u h;obtain rfl:=h;exact qa (λx e=>(nomatch e)) (λoo=>rfl)
 |cons q as ih=>
  obtain ⟨j,y⟩:=q
  intro u h
  (refine qk h λz5 es z6 z7 h3=>?_;clear h;obtain ⟨C,v⟩:=z5;subst z6;obtain ⟨h1,h0,h2⟩:=z7)
  subst h0
  by_cases e:i=j
  ·subst e
   rw [Bf,beq_self_eq_true]
   refine qa (λx e=>?_) (λe=>nomatch e)
   obtain rfl:=Wc.inj e
   refine qj v ?_ h2
   unfold FH
   rw [Fo,show decide (g.nm i=g.nm i)=true from decide_eq_true rfl];rfl
  ·have ne:¬ g.nm j=g.nm i:=λq=>e (G.nm_inj gk hi h1 q.symm)
   have b1:(i==j)=false:=beq_eq_false_iff_ne.mpr e
   have b3:FH ((g.nm j,v)::es) (g.nm i)=FH es (g.nm i):=by
    unfold FH
    rw [Fo,decide_eq_false ne]
   rw [Bf,b1,b3]
   exact ih h3
theorem qG.of {T id:String} (hl:Fp (.type T) "__getitem__"=pure (some (.builtin id))) (hT: ∀s v,Rep g f σ s->VR g x v->s.TypeIs v T) (h:xR g f n x y Q E σ):qG g f n x y Q E σ:=Op.mk λa b ha hb A s hA hs=>by
 have t:=hT s a hs ha
 refine yo ?_
 rw [Dp t.not_modules]
 refine yo (WH t hl ?_)
 exact yB (DG (h.h a b ha hb A s hA hs))
theorem xR.list (hm:(a,.list xs)∈σ.H) (h0:0<=i) (hz:i<9223372036854775808) (hx:xs[i.toNat]? =some x) (h:Q x σ):xR g f n (.ref a) (.int i) Q E σ:=Op.mk λv w hv hw A s hA hs=>by
 obtain rfl:=hv;(refine qA hw λoo z8=>?_;clear hw;subst z8)
 refine qB (hs.list hm) λvs k hr e=>?_
 refine qf (hr.get hx) λu hu C=>?_
 exact wpAny_getItem_list (qz e) h0 hz (by simpa using hu) (qe _ σ C hs h)
theorem qG.list (hm:(a,.list xs)∈σ.H) (h0:0<=i) (hz:i<9223372036854775808) (hx:xs[i.toNat]? =some x) (h:Q x σ):qG g f n (.ref a) (.int i) Q E σ:=
 qG.of Dj.lookup (λs v hs hv=>by obtain rfl:=hv;refine qB (hs.list hm) λvs k oo e=>?_;exact qj _ e rfl) (xR.list hm h0 hz hx h)
theorem xR.sdict (gk:GOk g mg mb) (hm:(a,.sdict es)∈σ.H) (hk:k<g.tab.length) (hx:es.lookup k=some x) (h:Q x σ):xR g f n (.ref a) (.sym k) Q E σ:=Op.mk λv w hv hw A s hA hs=>by
 obtain rfl:=hv;(refine qc hw λoo C=>?_;refine qA C λoo z9=>?_;clear hw;subst z9)
 refine qf (hs.sdict hm) λI hr e=>?_
 refine qf ((SR.find gk hk hr).1 x hx) λu hu F=>?_
 exact Hl (F6 _ _ _ _) e.mapOf hu (qe _ σ F (hs.toks _) h)
theorem u3 (hm:(a,.sdict es)∈σ.H): ∀s v,Rep g f σ s->VR g (.ref a) v->s.TypeIs v "dict":=λs v hs hv=>by obtain rfl:=hv;refine qf (hs.sdict hm) λu oo e=>?_;exact e.typeIs
theorem qG.sdict (gk:GOk g mg mb) (hm:(a,.sdict es)∈σ.H) (hk:k<g.tab.length) (hx:es.lookup k=some x) (h:Q x σ):qG g f n (.ref a) (.sym k) Q E σ:=
 qG.of F3.lookup (u3 hm) (xR.sdict gk hm hk hx h)
theorem Rep.newExc (h:Rep g f σ s) (x:Heap.NewExc s.heap h' e cls) (tk:Nat):zF g f σ {s with heap:=h',toks:=tk} e (.type cls):=by
 refine ja h λm C N a b c d z=>?_
 refine qk (x.there) λob t k1 k2 k3=>?_
 refine xI m C N a b (c.keeps x.keeps) d z (xI ob _ (.none) k1 k2 k3 (qa ?_ (λhm=>?_)) (qa rfl (qj [] (.none) (λoo m=>(yI m).elim))) (.inl rfl))
 ·cases q:f.prot.get? e with
  |none=>rfl
  |some o=>have:=c.stays _ _ q;rw [x.new] at this;cases this
 ·(refine qf (yD.mp hm) λq hq u=>?_;subst u)
  have:=c.there q hq;rw [x.new] at this;cases this
set_option tactic.hygienic true in
theorem SR.put (gk:GOk g mg mb) {i:Nat} (hi:i<g.tab.length) (hv:VR g y v) {es C} (h:SR g es C) (nd:(C.map (·.1)).Nodup):SR g (kc es i y) (stored C (g.nm i) v):=by
 have F: ∀{es C},SR g es C->(C.map (·.1)).Nodup->(C.any (λkv=>kv.1=g.nm i)=false->SR g (kc es i y) (C++[(g.nm i,v)]))/\(C.any (λkv=>kv.1=g.nm i)=true->SR g (kc es i y) (C.map λkv=>if kv.1=g.nm i then (kv.1,v) else kv)):=by
  intro es
  induction es with
  |nil=>intro C h _;obtain rfl:=h;exact qa (λoo=> .cons (qy hi rfl hv) .nil) (λh=>nomatch h)
  |cons p as ih=>
   obtain ⟨j,x⟩:=p
   intro C h nd
   (refine qk h λX es J I h3=>?_;clear h;obtain ⟨F,u⟩:=X;subst J;obtain ⟨h1,h0,h2⟩:=I)
   subst h0
   rw [yH,Wd] at nd
   refine qc (ih h3 nd.2) λa0 Z=>?_
   by_cases e:j=i
   ·subst e
    rw [D8,decide_eq_true rfl,Bool.true_or]
    refine qa (λq=>(nomatch q)) (λoo=>?_)
    rw [YJ rfl,yH,if_pos rfl]
    have:es.map (λkv=>if kv.1=g.nm j then (kv.1,v) else kv)=es:=by
     rw [List.map_congr_left (g:=id) λkv a1=>if_neg λ(q:kv.1=g.nm j)=>nd.1 (q ▸ yT (f:=(·.1)) a1),List.map_id]
    rw [this]
    exact .cons (qy h1 rfl hv) h3
   ·have ne:¬ g.nm j=g.nm i:=λq=>e (G.nm_inj gk h1 hi q)
    rw [Y6 e,D8,decide_eq_false ne,Bool.false_or,yH,if_neg ne]
    exact qa (λq=> .cons (qy h1 rfl h2) (a0 q)) (λq=> .cons (qy h1 rfl h2) (Z q))
 unfold stored
 split
 ·rename_i q;exact (F h nd).2 q
 ·rename_i q;exact (F h nd).1 ((Bool.not_eq_true _).mp q)
/- lists -/
theorem list1: ∀N,OR g a (.list xs) N->∃obj,N=[(a,obj)]:=λoo zf=>zf.elim λoo zf=>zf.elim λoo zf=>zf.elim λoo e=>(qx _ e)
theorem zj.list {Q:St->Prop} (u:HU a (.list xs) (.list (xs.set i.toNat y)) σ.H H') (h0:0<=i) (hz:i<9223372036854775808) (hn:i<xs.length) (h:Q {σ with H:=H'}):
  zj g f n (.ref a) (.int i) y Q E σ:=Op.mk λv w z hv hw F A s hA hs=>by
 obtain rfl:=hv;(refine qA hw λoo C=>?_;clear hw;subst C)
 refine qB (hs.list u.mem) λvs k hr e=>?_
 have I:i<vs.toArray.size:=by rw [yJ,hr.length];exact hn
 have q:=PySem.IsL.update e (·.setIfInBounds i.toNat z)
 have e2:vs.toArray.setIfInBounds i.toNat z=(vs.set i.toNat z).toArray:=by simp
 simp only [e2] at q
 exact ki_setAt e h0 hz I (qe () _ rfl (hs.upd1 u list1 (qU _ _ (hr.set F) rfl) (Heap.SameBut.update ..) q) h)
theorem Rep.pushL (hs:Rep g f σ s) (hr:VRs g xs vs):Rep g f {σ with H:=(s.heap.objs.size,.list xs)::σ.H} {s with heap:=s.heap.push (Bi vs.toArray 0)}:=hs.push (qU vs 0 hr rfl)
theorem qo.cat {a b:yu} (hm:(a,.list xs)∈σ.H) (hk:(b,.list ys)∈σ.H) (hz:xs.length+ys.length<=16777216) (h: ∀c,Q (.ref c) {σ with H:=(c,.list (xs++ys))::σ.H}):qo g f n .Add (.ref a) (.ref b) Q E σ:=Op.mk λv w hv hw A s hA hs=>by
 obtain rfl:=hv;obtain rfl:=hw
 refine qB (hs.list hm) λvs k hr e=>?_
 refine qB (hs.list hk) λus k' u e'=>?_
 refine concat_meets (qj _ e rfl) (qj _ e' rfl) noFill_list_add seq_list_add PySem.F.slot_list_add PySem.F.entry_list_add (PySem.F.args_list_add_2 _ _) (list_addW a b vs.toArray us.toArray k k' none none #[] #[] (by rw [yJ,yJ,hr.length,u.length,Wp];exact hz)) (qy e e' ?_)
 rw [show vs.toArray++us.toArray=(vs++us).toArray from by simp]
 exact qe _ _ (.ref) (hs.pushL (hr.append u)) (h _)
theorem qb.len (hm:(a,.list xs)∈σ.H) (hz:xs.length<9223372036854775808) (h:Q (.int xs.length) σ):qb g f n (.fix (.builtin "len")) [.ref a] [] Q E σ:=
 qb.of_builtin rfl λvs kw hv hk A s hA hs=>by
  obtain rfl:=hk
  (refine qk hv λoo oo u h1 h2=>?_;clear hv;subst u)
  obtain rfl:=h1;obtain rfl:=h2
  refine qB (hs.list hm) λus k hr e=>?_
  refine Calls.call_len_list (qz e) (by rw [yJ,hr.length];exact (qD [.nt VA KU] (.zt (.c VA) (.k (2^63))) rfl hz)) ?_
  rw [yJ,hr.length]
  exact qe _ σ (.int) (hs.toks _) h
theorem qb.lenB (hz:b.length<=16777216) (h:Q (.int b.length) σ):qb g f n (.fix (.builtin "len")) [.bytes b] [] Q E σ:=
 qb.of_builtin rfl λvs kw hv hk A s hA hs=>by
  obtain rfl:=hk
  (refine qk hv λoo oo C u h2=>?_;clear hv;subst C;obtain ⟨_,rfl⟩:=u)
  obtain rfl:=h2
  refine len_bytes (by rw [yJ];exact (ll0 hz rfl)) ?_
  rw [yJ]
  exact qe _ σ (.int) (hs.toks _) h
theorem zE.listM {id:String} {Q:V × List V->St->Prop} (hm:(a,.list xs)∈σ.H) (slot:Slot "list" (g.nm k) id) (u:Hm (.builtin id)=pure (.type "method_descriptor")) (h:Q (.fix (.builtin id),[.ref a]) σ):zE g f n (.ref a) k Q E σ:=Op.mk λv pl hv A s hA hs=>by
 obtain rfl:=hv
 refine qB (hs.list hm) λus k hr e=>?_
 exact getMethod_list_of slot u (qz e) (qj _ e rfl) (qe (_,_) σ (qa (.fix) (.cons .ref .nil)) hs h)
theorem qb.append (u:HU a (.list xs) (.list (xs++[y])) σ.H H') (hz:xs.length<=16777216) (h:Q .none {σ with H:=H'}):qb g f n (.fix (.builtin "list.append")) [.ref a,y] [] Q E σ:=
 qb.of_builtin rfl λvs kw hv hk A s hA hs=>by
  obtain rfl:=hk
  (refine qk hv λoo oo I h1 C=>?_;refine qk C λoo oo F h2 h3=>?_;clear hv;subst I;subst F)
  obtain rfl:=h1;obtain rfl:=h3
  refine qB (hs.list u.mem) λus k hr e=>?_
  refine append_at (hsz:=by rw [yJ,hr.length,Wp];exact hz) e λh' J ho=>?_
  rw [D0] at ho
  exact qe _ _ (.none) (hs.upd1 u list1 (qU _ _ (hr.append (.cons h2 .nil)) rfl) J ho) h
end
end
section
variable {g:G} {f:Fx} {n:Nat} {mg mb:Str->Option yr} {σ:St} {s:yF} {E:QE} {A:y9} {Q:QF} {i j:Int}
noncomputable abbrev Fx.at (f:Fx) (p:W0):Fx:={f with prot:=p}
theorem FOk.at (ok:FOk g f) (h: ∀b o,f.prot.get? b=some o->p.get? b=some o):FOk g (f.at p):=
 ⟨ok.kind,ok.locals,ok.globals,ok.builtins,ok.slots,ok.slotsLt,ok.cells,λb o e=>h b o (ok.base b o e),(by have:=ok.hd;revert this;show (match f.hd with|some v=>Ctx f.prot v f.keep|none=>f.keep=[])->(match f.hd with|some v=>Ctx p v f.keep|none=>f.keep=[]);cases f.hd with|none=>exact id|some v=>exact λc=>c.keep (je.of h)),ok.frames,ok.fun_⟩
theorem AOk.at (h:AOk f n A):AOk (f.at p) n A:=⟨h.frames,h.units,h.depth,h.hd,h.guards⟩
theorem jY {p q:W0} (sub: ∀b o,q.get? b=some o->p.get? b=some o) (b:yu) (e:p.get? b=none):q.get? b=none:=by
 cases h:q.get? b with
 |none=>rfl
 |some o=>rw [sub _ _ h] at e;cases e
theorem Lay.widen {p q h all} (sub: ∀b o,q.get? b=some o->p.get? b=some o) (big: ∃b o,WV<=b/\q.get? b=some o) (c:Lay p all h):Lay q all h:=
 ⟨c.nodup,c.there,λx hx=>jY sub _ (c.fresh x hx),λb o e=>c.stays b o (sub b o e),big,c.low⟩
theorem Rep.widen (sub: ∀b o,f.prot.get? b=some o->p.get? b=some o) (big: ∃b o,WV<=b/\f.prot.get? b=some o) (h:Rep g (f.at p) σ s):Rep g f σ s:=by
 refine xF h λm u N a b c d=>?_
 exact xi m u N a b (c.widen sub big) d
theorem zF.widen (sub: ∀b o,f.prot.get? b=some o->p.get? b=some o) (big: ∃b o,WV<=b/\f.prot.get? b=some o) (h:zF g (f.at p) σ s e cls):zF g f σ s e cls:=by
 refine xB h λm u N a b c d z x=>?_
 exact xI m u N a b (c.widen sub big) d z (QQ.re (λa ha=>(qa (jY sub _ ha.1) ha.2)) (λa ha=> .inl ha) x)
theorem Lay.hide {p h all} (c:Lay p all h):(∀b o,p.get? b=some o->(Dn h (all.map (·.1))).get? b=some o)/\Lay (Dn h (all.map (·.1))) all h:=by
 have fr: ∀b o,p.get? b=some o->(Dn h (all.map (·.1))).get? b=some o:=λb o e=>BL _ (c.stays b o e) λm=>by
  (refine qf (yD.mp m) λq hq u=>?_;subst u)
  have:=c.fresh q hq
  rw [e] at this;cases this
 exact qa fr ⟨c.nodup,c.there,λq m=>Fm _ (yT m),λb o e=>of_hideAll _ e,c.big.elim λb zf=>zf.elim λo zf=>zf.elim λhb e=>(qU b o hb (fr _ _ e)),c.low⟩
structure qF (g:G) (f:Fx) (hs:List (yu × Obj)) (σ:St) (s:yF):Prop where
 there: ∀p∈hs,s.heap.get? p.1=some p.2
 free: ∀p∈hs,f.prot.get? p.1=none
 rep: ∃m nso N,NR ((f.L,m)::f.outs) nso/\HR g σ.H N/\Lay f.prot (nso++N) s.heap/\jc g f.slots σ.loc m/\GX g.gens s.gens/\s.drawn=g.drawn/\s.os=g.os/\∀p∈hs,p.1 ∉ (nso++N).map (·.1)
variable {hs hs':List (yu × Obj)}
theorem qF.toRep (h:qF g f hs σ s):Rep g f σ s:=by
 (refine jk (h.rep) λm C N a b c d e1 e2 u=>?_;refine qc u λe3 oo=>?_)
 exact wj m C N a b c d e1 e2 e3
theorem qF.shut (h:qF g f hs σ s): ∃p,(∀b o,f.prot.get? b=some o->p.get? b=some o)/\Rep g (f.at p) σ s/\∀q∈hs,p.get? q.1=some q.2:=by
 (refine jk (h.rep) λm C N a b c d e1 e2 u=>?_;refine qc u λe3 hI=>?_)
 refine qc (c.hide) λfr c'=>?_
 exact qK _ fr (wj m C N a b c' d e1 e2 e3) (λq hq=>BL _ (h.there q hq) (hI q hq))
theorem qF.back (sub: ∀b o,f.prot.get? b=some o->p.get? b=some o) (big: ∃b o,WV<=b/\f.prot.get? b=some o) (free: ∀q∈hs,f.prot.get? q.1=none) (hI: ∀q∈hs,p.get? q.1=some q.2) (h:Rep g (f.at p) σ s):qF g f hs σ s:=by
 refine jk h λm u N a b c d e1 e2 e3=>?_
 refine ⟨λq hq=>c.stays _ _ (hI q hq),free,m,u,N,a,b,c.widen sub big,d,e1,e2,e3,λq hq hm=>?_⟩
 refine qf (yD.mp hm) λr hr e=>?_
 have:=c.fresh r hr
 rw [e,show (f.at p).prot=p from rfl,hI q hq] at this;cases this
abbrev ZD (hs hs':List (yu × Obj)):Prop:=hs'.map (·.1)=hs.map (·.1)
theorem ZD.mem (e:ZD hs hs') (h:p∈hs'): ∃q∈hs,q.1=p.1:=yD.mp (e ▸ yT h)
theorem qF.step (h:qF g f hs σ s) (e0:ZD hs hs') (hk: ∀b,b ∉ hs.map (·.1)->∀x,s.heap.get? b=some x->s'.heap.get? b=some x) (ho: ∀p∈hs',s'.heap.get? p.1=some p.2) (e1:s'.gens=s.gens) (e2:s'.drawn=s.drawn) (e3:s'.os=s.os):qF g f hs' σ s':=by
 (refine jk (h.rep) λm u N a b c d z1 z2 C=>?_;refine qc C λz3 hI=>?_)
 have off: ∀q∈u++N,q.1 ∉ hs.map (·.1):=λq hq hm=>by
  refine qf (yD.mp hm) λr hr e=>?_
  exact hI r hr (e ▸ yT hq)
 refine ⟨ho,λp hp=>?_,m,u,N,a,b,⟨c.nodup,λq hq=>hk _ (off q hq) _ (c.there q hq),c.fresh,λb x e=>hk b (λq=>?_) x (c.stays b x e),c.big,c.low⟩,d,e1.symm ▸ z1,e2.trans z2,e3.trans z3,λp hp=>?_⟩
 ·refine qf (e0.mem hp) λq hq e=>?_;rw [<- e];exact h.free q hq
 ·refine qf (yD.mp q) λr hr e'=>?_
  have:=h.free r hr
  rw [e',e] at this;cases this
 ·refine qf (e0.mem hp) λq hq e=>?_;rw [<- e];exact hI q hq
theorem qF.leave (h:qF g f hs σ s) (hk: ∀b,b ∉ hs.map (·.1)->∀x,s.heap.get? b=some x->s'.heap.get? b=some x) (e1:s'.gens=s.gens) (e2:s'.drawn=s.drawn) (e3:s'.os=s.os):Rep g f σ s':=by
 (refine jk (h.rep) λm C N a b c d z1 z2 u=>?_;refine qc u λz3 hI=>?_)
 refine wj m C N a b ⟨c.nodup,λq hq=>hk _ (λhm=>?_) _ (c.there q hq),c.fresh,λb x e=>hk b (λq=>?_) x (c.stays b x e),c.big,c.low⟩ d (e1.symm ▸ z1) (e2.trans z2) (e3.trans z3)
 ·refine qf (yD.mp hm) λr hr e=>?_
  exact hI r hr (e ▸ yT hq)
 ·refine qf (yD.mp q) λr hr e'=>?_
  have:=h.free r hr
  rw [e',e] at this;cases this
theorem qF.tell (h:qF g f hs σ s) (e0:ZD hs hs') (hk: ∀b,b ∉ hs.map (·.1)->∀x,s.heap.get? b=some x->s'.heap.get? b=some x) (ho: ∀p∈hs',s'.heap.get? p.1=some p.2) (e1:s'.gens=s.gens) (e2:s'.drawn=s.drawn) (e3:s'.os=s.os)
  {T:yu} (hT:s.heap.objs.size<=T) (ht:s'.heap.get? T=some ob) (hr:OR g T o [(T,ob)]):qF g f hs' ⟨σ.loc,(T,o)::σ.H⟩ s':=by
 (refine jk (h.rep) λm u N a b c d z1 z2 C=>?_;refine qc C λz3 hI=>?_)
 have off: ∀q∈u++N,q.1 ∉ hs.map (·.1):=λq hq hm=>by
  refine qf (yD.mp hm) λr hr e=>?_
  exact hI r hr (e ▸ yT hq)
 have ne: ∀q∈u++N,q.1≠T:=λq hq e=>WL _ (Wi (Heap.lt_size (c.there q hq)) (by rw [e];exact hT))
 refine ⟨ho,λp hp=>?_,m,u,(T,ob)::N,a,.cons (N₁:=[(T,ob)]) hr b,Lay.perm (all:=(T,ob)::(u++N)) ⟨?_,λq hq=>?_,λq hq=>?_,λb x e=>hk b (λq=>?_) x (c.stays b x e),c.big,λq hq=>?_⟩ Bd.symm,d,e1.symm ▸ z1,e2.trans z2,e3.trans z3,λp hp hm=>?_⟩
 ·refine qf (e0.mem hp) λq hq e=>?_;rw [<- e];exact h.free q hq
 ·rw [yH,Wd]
  refine qa (λhm=>?_) c.nodup
  refine qf (yD.mp hm) λq hq e=>?_
  exact ne q hq e
 ·rcases yy.mp hq with rfl|hq
  ·exact ht
  ·exact hk _ (off q hq) _ (c.there q hq)
 ·rcases yy.mp hq with rfl|hq
  ·exact c.new hT
  ·exact c.fresh q hq
 ·refine qf (yD.mp q) λr hr e'=>?_
  have:=h.free r hr
  rw [e',e] at this;cases this
 ·rcases yy.mp hq with rfl|hq
  ·exact c.static hT
  ·exact c.low q hq
 ·refine qf (e0.mem hp) λq hq e=>?_
  refine qf (yD.mp hm) λr hr e'=>?_
  refine Or.elim (yR.mp hr) (λhr=>?_) λhr=>?_
  ·exact hI q hq (by rw [e,<- e'];exact yT (yA _ hr))
  ·rcases yy.mp hr with rfl|hr
   ·exact WL _ (Wi (Heap.lt_size (h.there q hq)) (by rw [e,<- e'];exact hT))
   ·exact hI q hq (by rw [e,<- e'];exact yT (yx _ hr))
theorem Rep.its (h:Rep g f σ s) (hk: ∀b x,s.heap.get? b=some x->s'.heap.get? b=some x) (hn: ∀p∈hs,s.heap.objs.size<=p.1) (ho: ∀p∈hs,s'.heap.get? p.1=some p.2) (e1:s'.gens=s.gens) (e2:s'.drawn=s.drawn) (e3:s'.os=s.os):qF g f hs σ s':=by
 refine jk h λm u N a b c d z1 z2 z3=>?_
 refine ⟨ho,λp hp=>c.new (hn p hp),m,u,N,a,b,c.keeps hk,d,e1.symm ▸ z1,e2.trans z2,e3.trans z3,λp hp hm=>?_⟩
 refine qf (yD.mp hm) λq hq e=>?_
 exact WL _ (Wi (Heap.lt_size (c.there q hq)) (by rw [e];exact hn p hp))
theorem Rep.made (h:Rep g f σ s) {o:Obj} (hf:o.isFreed=false:=by rfl):qF g f [(s.heap.objs.size,o)] σ {s with heap:=s.heap.push o}:=
 h.its (λoo oo e=>Heap.get?_push_of_some _ e) (λp hp=>by rw [yN.mp hp];exact yM _) (λp hp=>by rw [yN.mp hp];exact Heap.get?_push_size _ hf) rfl rfl rfl
structure Walk (g:G) (f:Fx) (I:yu) (tgt:Expr) (len:Nat) (val:Nat->V->List (yu × O)->Prop) (obj:Nat->List (yu × Obj)->Prop) (P:St->Prop):Prop where
 item: ∀k A s σ hs,k<len->A.handled=none->obj k hs->qF g f hs σ s->P σ->yP g.M A (DP (.ref I)) (λr s₁=>∃v,r=some v/\yP g.M A (Bz tgt (.ref I) v) (λ_ s'=>∃x N hs',VR g x v/\val k x N/\obj (k+1) hs'/\qF g f hs' ⟨σ.loc,N++σ.H⟩ s') (λ_ _=>False) s₁) (λ_ _=>False) s
 stop: ∀A s σ hs,A.handled=none->obj len hs->qF g f hs σ s->P σ->yP g.M A (DP (.ref I)) (λr s'=>r=none/\(∀b,b ∉ hs.map (·.1)->∀x,s.heap.get? b=some x->s'.heap.get? b=some x)/\s'.gens=s.gens/\s'.drawn=s.drawn/\s'.os=s.os) (λ_ _=>False) s
theorem xT (ok:FOk g f) (hA:A.frames=some f.frames) (h:EP g f E v s):notedBy g.M A f.env (λe s'=>cameBackBy g.M A f.env (EP g f E) e s') v s:=by
 (refine qk h λx σ u hx he=>?_;clear h;subst u)
 exact jt ok hA hx λs' C=>JJ ok C (x:=x) rfl he
theorem EP.widen (sub: ∀b o,f.prot.get? b=some o->p.get? b=some o) (big: ∃b o,WV<=b/\f.prot.get? b=some o) (h:EP g (f.at p) E v s):EP g f E v s:=by
 (refine qk h λx σ u hx he=>?_;clear h;subst u)
 exact qe x σ rfl (hx.widen sub big) he
def Wk (P:St->Prop):St->Prop:=λσ=>∃H₁ H₂,σ.H.Perm H₁/\Sub H₂ H₁/\P ⟨σ.loc,H₂⟩
theorem Wk.of {P:St->Prop} (h:P σ):Wk P σ:=(qe σ.H σ.H (.refl _) (.refl _) h)
theorem Wk.itAt {P:St->Prop} (h:Wk P σ) (hi:qF g f hs σ s): ∃σ',qF g f hs σ' s/\P σ':=by
 refine qk h λH₁ H₂ p q h=>?_
 obtain ⟨h1,h2,m,u,N,a,b,c,d,e1,e2,e3,hI⟩:=hi
 refine qf (b.perm p) λN' b' p'=>?_
 refine qf (b'.sub q) λF C q'=>?_
 refine qj ⟨σ.loc,H₂⟩ ⟨h1,h2,m,u,F,a,C,(c.perm (p'.append_left _)).sub ((Sub.refl u).append q'),d,e1,e2,e3,λr hr hm=>hI r hr ?_⟩ h
 rw [yE,yR] at hm |-
 refine Or.elim hm (λhm=>?_) λhm=>?_
 ·exact .inl hm
 ·exact .inr ((p'.map _).mem_iff.mpr (q'.map.mem hm))
noncomputable def turn (k:St->Prop) (Q:QF):QF:=λfl σ=>match fl with| .next=>k σ| .cont=>k σ| .brk=>Q .next σ| .ret x=>Q (.ret x) σ
theorem jN (gk:GOk g mg mb) (ok:FOk g f) (hh:f.hd=none) {P:St->Prop} (w:Walk g f I (tg.ast (f.nmOf g)) len val obj P) (Inv:Nat->St->Prop) (hP: ∀k σ,Inv k σ->P σ)
  (ht:tg.chk (f.nmOf g)=true) (hb:xP (f.nmOf g) b=true) (ho:xP (f.nmOf g) o=true)
  (a1: ∀p k x N σ,FOk g (f.at p)->k<len->val k x N->Inv k σ->wTg g (f.at p) n tg x (λσ=>wSs g (f.at p) n b (turn (Wk (Inv (k+1))) Q) E σ) E ⟨σ.loc,N++σ.H⟩)
  (a7: ∀σ,Inv len σ->wSs g f n o Q E σ):
  ∀A s σ hs,AOk f n A->obj 0 hs->qF g f hs σ s->Inv 0 σ->yP g.M A (runOwn (.forLoop (tg.ast (f.nmOf g)) (.ref I) (xm (f.nmOf g) b) (xm (f.nmOf g) o) f.env) f.env) (λv s'=>∃x σ',FR g x v/\Rep g f σ' s'/\Q x σ') (EP g f E) s:=by
 intro A s σ o₀ hA af hi h0
 refine wpAny_runOwn ?_
 refine codeAny_forLoop_any (λm s'=>∃k σ' hs,k<=len/\m=len - k/\obj k hs/\qF g f hs σ' s'/\Inv k σ') (λm s' hI=>?_) len (ji 0 σ o₀ (WI _) rfl af hi h0)
 (refine ja hI λk σ' hs hk ab a6 a0 hv=>?_;clear hI;subst ab)
 have a2:AOk f n (A.mark none):=⟨hA.frames,hA.units,hA.depth,hA.hd,hA.guards⟩
 have hd:(A.mark none).handled=none:=hA.hd.trans hh
 refine Or.elim (W5 k len) (λF=>?_) λag=>?_
 ·refine yK (w.item k _ s' σ' hs F hd a6 a0 (hP _ _ hv)) (λr s₁ h₁=>?_) λoo oo h=>h.elim
  obtain ⟨v,rfl,h₁⟩:=h₁
  dsimp only
  refine yK h₁ (λoo s₁ h₁=>?_) λoo oo h=>h.elim
  refine xF h₁ λx N hs' hr a3 X J=>?_
  have big:=J.toRep.big
  refine zk (J.shut) λp sub ae a5=>?_
  have Z:=ok.at sub
  refine yK (zD gk Z tg ht hr (a1 p k x N σ' Z F a3 hv) _ s₁ a2.at ae) (λoo s₂ h₂=>?_) λe s₂ h=>xT ok hA.frames (EP.widen sub big h)
  refine qk h₂ λoo σ₂ oo a4 hw=>?_
  refine yK (sSs gk Z b hb hw _ s₂ a2.at a4) (λfl s₃ h₃=>?_) λe s₂ h=>xT ok hA.frames (EP.widen sub big h)
  refine qk h₃ λx σ₃ hx C hq=>?_
  cases x with
  |next=>cases hx;refine qf (Wk.itAt hq (qF.back sub big J.free a5 C)) λσ₄ i4 q4=>?_;exact qj (len - (k+1)) (by exact (zN [.ne (.a VA (.a VB KB)) VC,.ne (.a VD VB) VC] (.nt VA VD) [1,1,-1] rfl (yn (qq [.nt VA VB] (.nl (.a VA KB) VB) rfl F)) (yn hk))) (ji (k+1) σ₄ hs' F rfl X i4 q4)
  |cont=>cases hx;refine qf (Wk.itAt hq (qF.back sub big J.free a5 C)) λσ₄ i4 q4=>?_;exact qj (len - (k+1)) (by exact (zN [.ne (.a VA (.a VB KB)) VC,.ne (.a VD VB) VC] (.nt VA VD) [1,1,-1] rfl (yn (qq [.nt VA VB] (.nl (.a VA KB) VB) rfl F)) (yn hk))) (ji (k+1) σ₄ hs' F rfl X i4 q4)
  |brk=>cases hx;exact qe (.next) σ₃ rfl (C.widen sub big) hq
  |ret y=>(refine qf hx λu aa hu=>?_;clear hx;subst aa);exact qe (.ret y) σ₃ (qj u rfl hu) (C.widen sub big) hq
 ·obtain rfl:k=len:=B9 hk ag
  refine yK (w.stop _ s' σ' hs hd a6 a0 (hP _ _ hv)) (λr s₁ h₁=>?_) λoo oo h=>h.elim
  (refine qZ h₁ λa9 ac a8=>?_;refine qZ a8 λe1 e2 e3=>?_;clear h₁;subst a9)
  dsimp only
  exact yK (sSs gk ok o ho (a7 σ' hv) _ s₁ a2 (a0.leave ac e1 e2 e3)) (λfl s₃ h₃=>h₃) λe s₂ h=>xT ok hA.frames h
end
section
variable {g:G} {f:Fx} {n:Nat} {mg mb:Str->Option yr} {σ:St} {s:yF} {E:QE} {A:y9} {Q:QV} {i j:Int}
theorem qb.range1 (h: ∀r,Q (.ref r) {σ with H:=(r,.rng 0 i 1)::σ.H}):qb g f n (.fix (.type "range")) [.int i] [] Q E σ:=
 qb.of_builtin rfl λvs kw hv hk A s hA hs=>by
  obtain rfl:=hk
  (refine qk hv λoo oo C u h2=>?_;clear hv;subst C;obtain ⟨_,rfl⟩:=u)
  obtain rfl:=h2
  exact call_range_1 (qe _ _ (.ref) ((hs.push (o:= .rng _ _ _) (qW _ _ _ rfl)).toks _) (h _))
theorem qb.range2 (h: ∀r,Q (.ref r) {σ with H:=(r,.rng i j 1)::σ.H}):qb g f n (.fix (.type "range")) [.int i,.int j] [] Q E σ:=
 qb.of_builtin rfl λvs kw hv hk A s hA hs=>by
  obtain rfl:=hk
  (refine qk hv λoo oo J I u=>?_;refine qk u λoo oo F C h2=>?_;clear hv;subst J;obtain ⟨_,rfl⟩:=I;subst F;obtain ⟨_,rfl⟩:=C)
  obtain rfl:=h2
  exact call_range_2 (qe _ _ (.ref) ((hs.push (o:= .rng _ _ _) (qW _ _ _ rfl)).toks _) (h _))
theorem JY (t:Expr) (I v:yr):Bz t I v=pure ()\/Bz t I v=Bz (.List [] ⟨0,0,0,0⟩) I v:=by
 cases t<;>first|exact .inl rfl|exact .inr rfl
theorem jv {Q:Unit->yF->Prop} {E:yr->yF->Prop} (ho:s.heap.get? I=some o) (hc:(match o.cls with| .type n=> !["enumerate","zip","dict_itemiterator","dict_reverseitemiterator","odict_iterator","itertools.zip_longest","itertools.pairwise"].contains n|_=>true)=true) (h:Q () s):yP g.M A (Bz Z (.ref I) v) Q E s:=by
 rcases JY Z (.ref I) v with e|e<;>rw [e]
 ·exact yB h
 cases v<;>first
  |exact yB h
  |(refine yo (HM ho ?_);obtain ⟨c,d,dt,sl⟩:=o;cases c<;>first
     |exact yB h
     |(cases dt<;>first
       |exact yB h
       |(dsimp only at hc |-;rw [not_true hc,DX];exact yB h)))
abbrev jn (I:yu) (i:Int) (len:Nat) (k:Nat) (hs:List (yu × Obj)):Prop:=hs=[(I,{cls:= .type "range_iterator",data:= .fields #[rawInt (i+(k:Int)),rawInt ((len:Int) - (k:Int)),rawInt 1]})]
theorem Walk.range:Walk g f I tgt len (λk x N=>x= .int (i+(k:Int))/\N=[]) (jn I i len) (λoo=>True) where
 item:=λk A s σ hs hk hh ho hi oo=>by
  subst ho
  refine wpAny_pyNext_range_item (x:=i+(k:Int)) (left:=(len:Int) - (k:Int)) (step:=1) (hi.there _ (.head _)) (qq [.nt VA VB] (.zt UA (.s (.c VB) (.c VA))) rfl hk) λh' hit hs=>(qj _ rfl ?_)
  have e1:i+(k:Int)+1=i+((k+1:Nat):Int):=by exact (Xm [] (.ze (.a (.a ZA (.c VA)) UB) (.a ZA (.c (.a VA KB)))) rfl)
  have e2:(len:Int) - (k:Int) - 1=(len:Int) - ((k+1:Nat):Int):=by exact (qq [] (.ze (.s (.s (.c VA) (.c VB)) UB) (.s (.c VA) (.c (.a VB KB)))) rfl)
  unfold IsRangeIter at hit
  rw [e1,e2] at hit
  refine jv (s:={s with heap:=h',toks:=_}) hit rfl (xi _ [] _ (.int) (qa rfl rfl) rfl (hi.step rfl (λb hb x e=>(hs.2 b λq=>hb (by rw [q];exact .head _)).trans e) (λp hp=>by rw [yN.mp hp];exact hit) rfl rfl rfl))
 stop:=λA s σ hs hh ho hi oo=>by
  subst ho
  exact wpAny_pyNext_range_end hh (x:=i+(len:Int)) (left:=(len:Int) - (len:Int)) (step:=1) (hi.there _ (.head _)) (qD [] (.zl (.s (.c VA) (.c VA)) UA) rfl) λh' he=>(zQ rfl (λb hb x e=>he b x (λq=>hb (by rw [q];exact .head _)) e) rfl (qa rfl rfl))
abbrev Y8 (I l:yu) (k:Nat) (hs:List (yu × Obj)):Prop:=∃o:Obj,hs=[(I,o)]/\o.cls= .type "list_iterator"/\o.data= .fields #[.ref l,.int (k:Int) 0]
theorem Walk.list:Walk g f I tgt xs.length (λk x N=>xs[k]? =some x/\N=[]) (Y8 I l) (λσ=>(l,.list xs)∈σ.H) where
 item:=λk A s σ hs hk hh ho hi hm=>by
  (refine zk ho λo z42 ho1 ho2=>?_;clear ho;subst z42)
  refine qB (hi.toRep.list hm) λvs c hr e=>?_
  have hx:xs[k]? =some xs[k]:=yw hk
  refine qf (hr.get hx) λv hv hrv=>?_
  refine wpAny_pyNext_list_item (qK _ (hi.there _ (.head _)) ho1 ho2) (qz e) (by simpa using hv) λh' hit hs=>(qj v rfl ?_)
  refine zk hit λo' h1 h2 h3=>?_
  refine jv (s:={s with heap:=h'}) h1 (by rw [h2];rfl) (xi _ [] _ hrv (qa hx rfl) (qK o' rfl h2 h3) (hi.step rfl (λb hb x e=>(hs.2 b λq=>hb (by rw [q];exact .head _)).trans e) (λp hp=>by rw [yN.mp hp];exact h1) rfl rfl rfl))
 stop:=λA s σ hs hh ho hi hm=>by
  (refine zk ho λo z43 ho1 ho2=>?_;clear ho;subst z43)
  refine qB (hi.toRep.list hm) λvs c hr e=>?_
  exact wpAny_pyNext_list_end hh (qK _ (hi.there _ (.head _)) ho1 ho2) (qz e) (by rw [HE];rw [yJ,hr.length];exact yM _) λh' he=>(zQ rfl (λb hb x e=>he b x (λq=>hb (by rw [q];exact .head _)) e) rfl (qa rfl rfl))
theorem zC.range (gk:GOk g mg mb) (ok:FOk g f) (hh:f.hd=none) {Q:QF} (Inv:Nat->St->Prop) (hm:(r,.rng i j 1)∈σ.H) (hi: -4611686018427387904<=i/\i<4611686018427387904) (hj: -4611686018427387904<=j/\j<4611686018427387904) (h0:Inv 0 σ)
  (u: ∀p (k:Nat) σ,FOk g (f.at p)->(k:Int)<j - i->Inv k σ->wTg g (f.at p) n tg (.int (i+(k:Int))) (λσ=>wSs g (f.at p) n b (turn (Wk (Inv (k+1))) Q) E σ) E σ)
  (C: ∀σ,Inv (j - i).toNat σ->wSs g f n o Q E σ):zC g f n tg (.ref r) b o Q E σ:=Op.mk λht hb ho a ha A s hA hs=>by
 obtain rfl:=ha
 refine zc (hs.rng hm) λt₁ u₁ v₁ e=>?_
 have hsz:Builtin.Range.rangeSize i j 1=((j - i).toNat:Int):=rangeSize_nat i j
 refine yo (Wr (FP e (small_one hi.1 hi.2 hj.1 hj.2) ?_))
 have z:=hs.made (o:={cls:= .type "range_iterator",data:= .fields #[rawInt i,rawInt (Builtin.Range.rangeSize i j 1),rawInt 1]})
 rw [hsz] at z |-
 have z':jn s.heap.objs.size i (j - i).toNat 0 [(s.heap.objs.size,{cls:= .type "range_iterator",data:= .fields #[rawInt i,rawInt ((j - i).toNat:Int),rawInt 1]})]:=by
  have e1:i+((0:Nat):Int)=i:=by exact (za [] (.ze (.a ZA UA) ZA) rfl)
  have e2:((j - i).toNat:Int) - ((0:Nat):Int)=((j - i).toNat:Int):=by exact (qD [] (.ze (.s (.c VA) UA) (.c VA)) rfl)
  unfold jn
  rw [e1,e2]
 exact jN gk ok hh Walk.range Inv (λoo oo oo=>trivial) ht hb ho (λp k x N σ J hk hx hv=>by (refine qc hx λI F=>?_;clear hx;subst I;subst F);exact u p k σ J (by (first|lia|omega)) hv) C A _ σ _ hA z' z h0
theorem zC.list (gk:GOk g mg mb) (ok:FOk g f) (hh:f.hd=none) {Q:QF} (Inv:Nat->St->Prop) (hm: ∀k σ,Inv k σ->(l,.list xs)∈σ.H) (h0:Inv 0 σ)
  (u: ∀p k x σ,FOk g (f.at p)->xs[k]? =some x->Inv k σ->wTg g (f.at p) n tg x (λσ=>wSs g (f.at p) n b (turn (Wk (Inv (k+1))) Q) E σ) E σ)
  (C: ∀σ,Inv xs.length σ->wSs g f n o Q E σ):zC g f n tg (.ref l) b o Q E σ:=Op.mk λht hb ho a ha A s hA hs=>by
 obtain rfl:=ha
 refine qB (hs.list (hm 0 σ h0)) λvs c hr e=>?_
 refine yo (Wr (wpAny_pyIter_list (qz e) ?_))
 exact jN gk ok hh (Walk.list (xs:=xs)) Inv hm ht hb ho (λp k x N σ F hk hx hv=>by obtain ⟨hx,rfl⟩:=hx;exact u p k _ σ F hx hv) C A _ σ _ hA (qK _ rfl rfl rfl) hs.made h0
end
section
variable {g:G} {f:Fx} {n:Nat} {mg mb:Str->Option yr} {σ:St} {s:yF} {E:QE} {A:y9} {Q:QF}
noncomputable abbrev Fx.han (f:Fx) (p:W0) (e:yu) (l:List yu):Fx:={f with prot:=p,hd:=some (.ref e),keep:=e::l}
def Y1 (g:G) (f:Fx) (n:Nat) (hs:List HX) (e:Ex) (Q:QF) (E:QE) (σ:St):Prop:=
 (hs.all (·.chk (f.nmOf g)))=true->∀A s,AOk f n A->jR g f σ s e.addr e.cls->
    yP g.M A (handleBy (.ref e.addr) f.env (hs.map (·.ast (f.nmOf g)))) (λv s'=>∃x σ',FR g x v/\Rep g f σ' s'/\Q x σ') (EP g f E) s
theorem YC.of (ok:FOk g f) (h:Y1 g f n hs e Q E σ):YC g f n hs e Q E σ:=Op.mk λhm A s hA hx=>
 jt ok hA.frames hx λs₁ u=>xo ok u.x λs₂ C k=>h hm A s₂ hA (k u)
theorem Ctx.there (cc:Ctx h v l): ∀k∈l,∃o,h.get? k=some o:=by
 induction cc with
 |none=>intro _ m;cases m
 |more h1 _ _ _ ih=>
  intro k m
  rcases yy.mp m with rfl|m
  ·exact qx _ h1
  ·exact ih k m
theorem FOk.kept (ok:FOk g f): ∀k∈f.keep,∃o,f.prot.get? k=some o:=by
 have:=ok.hd
 revert this
 cases f.hd with
 |none=>intro e;rw [show f.keep=[] from e];exact λoo m=>(yI m).elim
 |some v=>exact λcc=>Ctx.there cc
theorem jR.shut (ok:FOk g f) (h:jR g f σ s e cls): ∃p l,(∀b o,f.prot.get? b=some o->p.get? b=some o)/\Rep g (f.han p e l) σ s/\Ctx p (.ref e) (e::l)/\(∀a∈e::l,a∈f.keep\/(f.prot.get? a=none/\p.get? a≠none)):=by
 (refine xB h λm u N a b c d z C=>?_;refine xB C λoe vs cx a1 a2 a3 a4 F a6=>?_;obtain ⟨a5,l,l1,l2⟩:=F)
 refine qc (c.hide) λfr c'=>?_
 have kl: ∀{v:yr} {l:List yu},Ctx s.heap v l->(∀k∈l,k∈f.keep\/wB f.prot ((u++N).map (·.1)) k)->Ctx (Dn s.heap ((u++N).map (·.1))) v l:=by
  intro v l cc
  induction cc with
  |none=>intro _;exact .none
  |more h1 h2 h3 _ ih=>
   intro hk
   refine .more ?_ h2 h3 (ih (λk I=>hk k (.tail _ I)))
   refine Or.elim (hk _ (.head _)) (λq=>?_) λq=>?_
   ·refine qA (ok.kept _ q) λo ho=>?_
    have:=c.stays _ _ ho
    rw [h1] at this;obtain rfl:=Wc.inj this
    exact fr _ _ ho
   ·exact BL _ h1 q.2
 have he:(Dn s.heap ((u++N).map (·.1))).get? e=some oe:=BL _ a1 a4.2
 refine Qi _ l fr (ji m u N a b c' d z) (.more he a3 a5 (kl l1 l2)) (λk hk=>?_)
 rcases yy.mp hk with rfl|hk
 ·exact .inr (qa a4.1 (by rw [he];exact DE _))
 ·refine Or.elim (l2 k hk) (λq=>?_) λq=>?_
  ·exact .inl q
  ·refine qA (Ctx.there l1 k hk) λo ho=>?_
   exact .inr (qa q.1 (by rw [BL _ ho q.2];exact DE _))
theorem FOk.han (ok:FOk g f) (h: ∀b o,f.prot.get? b=some o->p.get? b=some o) (c:Ctx p (.ref e) (e::l)):FOk g (f.han p e l):=
 ⟨ok.kind,ok.locals,ok.globals,ok.builtins,ok.slots,ok.slotsLt,ok.cells,λb o e=>h b o (ok.base b o e),c,ok.frames,ok.fun_⟩
theorem EP.unhan (sub: ∀b o,f.prot.get? b=some o->p.get? b=some o) (big: ∃b o,WV<=b/\f.prot.get? b=some o) (kk: ∀a∈e::l,a∈f.keep\/(f.prot.get? a=none/\p.get? a≠none)) (h:EP g (f.han p e l) E v s):EP g f E v s:=by
 (refine qk h λx σ F C he=>?_;clear h;subst F;obtain ⟨m,I,N,a,b,c,d,z,hx⟩:=C)
 refine qe x σ rfl (xI m I N a b (c.widen sub big) d z (QQ.re (λa ha=>(qa (jY sub _ ha.1) ha.2)) (λa ha=>(kk a ha).imp id λq=>(qa q.1 (λhm=>?_))) hx)) he
 (refine qf (yD.mp hm) λt ht u=>?_;subst u)
 exact q.2 (c.fresh t ht)
theorem Ys (gk:GOk g mg mb) (ok:FOk g f) {e:Ex} (hv:g.globs.lookup i=some tv) (hx:exmOne g.K e.cls tv=some hit) (hm:(Mine.Internal.E.glb i q).chk (f.nmOf g)=true)
  (ht:jR g f σ s e.addr e.cls) (k:R (.ok (if hit then .brk else .next)) s):
  W9 g.M (A.mark (some (.ref e.addr))) (.handlers (.ref e.addr) [.ExceptHandler (some ((Mine.Internal.E.glb i q).ast (f.nmOf g))) none [] pos] f.env) R s:=by
 refine codeAny_handlers_test ?_
 have LT:Bv g.M s.heap (Hm (.ref e.addr)) e.cls:=by
  (refine xB ht λm C N a b c d z u=>?_;refine kT u λoe vs cx a1 a2 oo=>?_)
  rw [<- a2];exact (Looks.ld a1).andThen .now
 refine qc (qh hm) λh1 h3=>?_
 refine qc (qh h1) λh1 h2=>?_
 refine wpAny_Name ?_ (not_true h3)
 exact Qt gk ok ht.x.rep rfl (eq_of_beq h2) hv ((exm_one (ht.x.rep.kin gk ok) LT hx).here k)
theorem Y1.hit (gk:GOk g mg mb) (ok:FOk g f) (hv:g.globs.lookup i=some tv) (hx:exmOne g.K e.cls tv=some true)
  (h: ∀p l,FOk g (f.han p e.addr l)->wSs g (f.han p e.addr l) n b Q E σ):Y1 g f n (⟨Mine.Internal.E.glb i q,none,b,p⟩::r) e Q E σ:=λhm A s hA ht=>by
 refine qc (qh hm) λh1 h2=>?_
 refine qc (qh h1) λh1 h4=>?_
 refine qc (qh h1) λh1 h3=>?_
 refine qc (qh h1) λh1 h5=>?_
 rcases b with _|⟨y,z⟩
 ·cases h4
 refine wpAny_handleBy_cons (Ys gk ok hv hx h1 ht ?_) (by intro q;cases q)
 refine codeAny_handlers_suite (xo ok ht.x λs₁ Z hk=>?_)
 refine xW ((hk ht).shut ok) λq l sub hr cc kk=>?_
 have u:=ok.han sub cc
 have X:AOk (f.han q e.addr l) n (A.mark (some (.ref e.addr))):=⟨hA.frames,hA.units,hA.depth,rfl,hA.guards⟩
 have big:=ht.x.rep.big
 refine yK (sSs gk u (y::z) h3 (h q l u) _ s₁ X hr) (λfl s₂ h₂=>?_) λv s₂ h₂=>?_
 ·refine qk h₂ λx' σ' k1 k2 k3=>?_
  exact qe x' σ' k1 (Rep.widen (f:=f) sub big k2) k3
 ·(refine qk (EP.unhan sub big kk h₂) λx' σ' F I J=>?_;subst F)
  refine jt (A:=A.mark (some (.ref e.addr))) ok hA.frames I λs' C=>?_
  exact JJ ok C (x:=x') rfl J
end
section
variable {g:G} {f:Fx} {n:Nat} {mg mb:Str->Option yr} {σ:St} {s:yF} {E:QE} {A:y9} {Q:QF}
noncomputable def YB (K:B0) (C:yu):Bool:=(subIn K (.ref C) (.type "BaseException")==some true) && (typeIn K (.ref C)==some (.type "type"))
noncomputable abbrev uo (t:yr):Array yr:= #[t,.none,.none,.none,.bool false,.none]
theorem Rep.fly (h:Rep g f σ s) (p:σ.H.Perm ((a,.inst C at' (some t))::H₂)):zF g f {σ with H:=H₂} s a (.ref C)/\∃dx,s.heap.get? a=some (kI C dx (some t)):=by
 refine ja h λm u N x1 x2 x3 x4 x5=>?_
 refine qf (x2.perm p) λN' y1 y2=>?_
 have c:=x3.perm (y2.append_left u)
 (refine qk y1 λoo N₂ I F k2=>?_;clear y1;subst I;obtain ⟨dx,es,k,k1,rfl⟩:=F)
 have c:=c.perm (all':=(a,kI C dx (some t))::(dx,Da es k)::(u++N₂)) (List.perm_append_comm_assoc u [_,_] N₂)
 have he:=c.there _ (.head _)
 have nd:=c.nodup
 rw [yH,Wd] at nd
 exact qa (xI m u N₂ x1 k2 (c.sub (.drop (.drop (Sub.refl _)))) x4 x5 (xI _ (uo t) (.none) he kM rfl (qa (c.fresh _ (.head _)) (λhm=>nd.1 (.tail _ hm))) (qa rfl (qj [] (.none) (λoo m=>(yI m).elim))) (.inl rfl))) (qx dx he)
theorem QK (he:h.get? a=some (kI C dx x)):Bv M h (isType (.ref a)) false:=by
 refine (Looks.ld he).andThen ?_
 cases x<;>exact .now
theorem Jk (gk:GOk g mg mb) (ok:FOk g f) (hc:YB g.K C=true) (p:σ.H.Perm ((a,.inst C at' (some t))::H₂)) (hA:AOk f n A) (hs:Rep g f σ s)
  (h:yP g.M A (raiseNew (.ref a):Sem Flow) Q' (EP g f E) s):yP g.M A (FK f.env (some (pure (.ref a))) none) Q' (EP g f E) s:=by
 (refine qc (hs.fly p) λhx u=>?_;refine qA u λdx he=>?_)
 unfold YB at hc
 simp only [BI,beq_iff_eq] at hc
 have X:=hs.kin gk ok
 have L1:Bv g.M s.heap (isType (.ref a)) false:=QK he
 have L2:Bv g.M s.heap (Hm (.ref a)) (.ref C):=(Looks.ld he).andThen (by rw [kM];exact .now)
 have L3:Bv g.M s.heap (Dw (.ref a) (.type "BaseException")) true:=L2.andThen (HF X hc.1)
 have L4:Bv g.M s.heap (Hm (.ref C)) (.type "type"):=looks_typeIn X hc.2
 unfold FK
 refine yo (yB (yo (yB (yo (Wr ?_)))))
 unfold excFromValue isExcClass
 refine yo (yo (L1.here (yB ?_)))
 dsimp only
 rw [if_neg WY]
 refine yo (L3.here ?_)
 rw [if_pos rfl]
 refine yB (yo (L1.here ?_))
 rw [if_neg WY]
 unfold raisedInstance
 refine yo (yo (L2.here (yo (L4.here ?_))))
 rw [if_pos (beq_self_eq_true _)]
 refine yB (yo ?_)
 unfold FM
 refine yo (Bn he (vs:=uo t) rfl (x:= .none) rfl ?_)
 rw [if_neg (by decide)]
 exact yB h
theorem X4.free (gk:GOk g mg mb) (ok:FOk g f) (hd:f.hd=none) (hc:YB g.K C=true) (p:σ.H.Perm ((a,.inst C at' (some t))::H₂)) (h:E ⟨a,.ref C⟩ {σ with H:=H₂}):X4 g f n (.ref a) E σ:=Op.mk λv hv A s hA hs=>by
 obtain rfl:=hv
 refine Jk gk ok hc p hA hs ?_
 unfold raiseNew
 refine yo (wpAny_handled ?_)
 rw [hA.hd,hd]
 exact yo (yB (HG ⟨⟨a,.ref C⟩,_,rfl,(hs.fly p).1,h⟩))
end
section
variable {g:G} {f:Fx} {n:Nat} {mg mb:Str->Option yr} {σ:St} {s:yF} {E:QE} {A:y9} {Q:QF}
end
section
variable {g:G} {f:Fx} {n:Nat} {mg mb:Str->Option yr} {σ:St} {s:yF} {E:QE} {A:y9} {Q:QF}
noncomputable def wo (l:List yr):Bool:=(l.dropWhile λv=> !noref v)==[.type "Exception",.type "BaseException",.type "object"]
theorem Je (e:wo (v::r)=true):(∃c,v= .ref c/\wo r=true)\/v::r=[.type "Exception",.type "BaseException",.type "object"]:=by
 unfold wo at e
 rw [List.dropWhile_cons] at e
 by_cases h:(!noref v)=true
 ·rw [if_pos h] at e
  refine .inl ?_
  cases v<;>first|exact ⟨_,rfl,e⟩|cases h
 ·rw [if_neg h] at e
  exact .inr (eq_of_beq e)
theorem XR (u:yr) (e:wo l=true):refuseLoop u "__setattr__" l=pure ()/\l.contains (.type "object")=true:=by
 induction l with
 |nil=>cases e
 |cons v r ih=>
  rcases Je e with ⟨c,rfl,e⟩|e
  ·refine qc (ih e) λh1 h2=>?_
   exact qa (by rw [refuseLoop_ref];exact h1) (by rw [De,h2,Hf])
  ·rw [e]
   exact qa (PySem.F.store_Exception.passes u) (by simp)
noncomputable def u0 (K:B0) (C:yu) (name:Str):Bool:=(FO K (.ref C) "__setattr__"==some (some (.builtin "object.__setattr__"))) && (clsIn K C).any (λcd=>wo cd.mro) && (takerIn K C name==some none) && hasDictIn K C
open Builtin Builtin.Object Builtin.ObjectAttr in
theorem J6 {prog:DU} {w:DV} {A:y9} {R:Result->yF->Prop} {K:B0} {s:yF} {x C:yu} {ox:Obj} {od:Option Obj} {name:Str} {tk:Tok} {v:yr} (X:K.In s.heap) (I:InstAt s.heap x ox C od) (hp:((clsIn K C).any λcd=>wo cd.mro)=true) (ht:takerIn K C name=some none)
  (h: ∀b,yP (Wf prog w) A.in1 (storeInOwnDict (.ref x) (.ref C) (.str name tk) name v b)
   (λfin s'=>match fin with| .done f=>R (.ok f) s'| .again c'=>c'.quiet=true/\W9 (Wf prog w) A c' R s') (λe s'=>R (.error e) s') s):
  W9 (Wf prog w) A (.call (.builtin "object.__setattr__") ⟨[.ref x,.str name tk,v],[]⟩) R s:=by
 have SF:=PySem.F.store_object
 refine qf (Hj hp) λcd hc hx=>?_
 refine qc (XR (.ref x) hx) λJ u=>?_
 have ne:cd.mro.isEmpty=false:=by
  cases q:cd.mro with
  |nil=>rw [q] at u;cases u
  |cons _ _=>rfl
 have Z:Bv (Wf prog w) s.heap (Dw (.ref x) (.type "object")) true:=I.type.andThen (looks_mroIn X (by unfold mroIn;rw [hc,Option.bind_some,if_neg (by rw [ne];decide),u]))
 refine codeAny_call_builtin SF.slot.plain SF.entry (@check_slot (Wf prog w) _ _ s "object.__setattr__" "object" "__setattr__" (.ref x) [.str name tk,v] [] _ SF.kind SF.split Z (SF.args (.ref x) (.str name tk) v) ?_)
 refine qf (Hs.mp ht) λattr ha hr=>?_
 have tk3:Bv (Wf prog w) s.heap (storeTaker? attr) none:=by
  cases attr with
  |none=>exact .now
  |some a=>
   refine qf (WB.mp hr) λb hb a0=>?_
   refine (looks_takesIn X hb).andThen ?_
   cases b with
   |false=>exact .now
   |true=>cases a0
 have hm:Bv (Wf prog w) s.heap (mroOf (.ref C)) cd.mro:=(HD X hc).andThen .now
 rw [osa_eq,refuse_eq]
 refine yo (yo (I.type.here (yo (hm.here ?_))))
 rw [J]
 exact yB (yo (I.type.here (yo ((looks_findIn X ha).here (yo (tk3.here (h _)))))))
theorem zr.exc0 (gk:GOk g mg mb) (ok:FOk g f) {Q:St->Prop} (u:HU a (.exc0 C t) (.inst C [(i,y)] (some t)) σ.H H') (hi:i<g.tab.length) (hc:u0 g.K C (g.nm i)=true)
  (h:Q {σ with H:=H'}):zr g f n (.ref a) i y Q E σ:=Op.mk λw v hw hv A s hA hs=>by
  obtain rfl:=hw
  refine qc (qh hc) λc1 c4=>?_
  refine qc (qh c1) λc1 c3=>?_
  refine qc (qh c1) λc1 c2=>?_
  have c1:=eq_of_beq c1
  have c3:=eq_of_beq c3
  obtain ⟨F,gg,dd,tt,os⟩:=s
  (refine zk (hs.upd u) λoo a0 r3 r4=>?_;subst a0)
  have r2:=r3 _ (.head _)
  dsimp only at r2 r4
  have I:InstAt F a {cls:= .ref C,data:= .fields #[t,.none,.none,.none,.bool false,.none]} C none:=⟨r2,rfl,rfl,trivial⟩
  have X:=hs.kin gk ok
  refine set_plain X I c1 (J6 (s:=⟨F,gg,dd,tt+1,os⟩) X I c2 c3 λb=>?_)
  refine qf (Hj c4) λcd a2 a1=>?_
  refine yo (yB (yo (yo (FG r2 ?_))))
  refine yo ((HD X a2).at ?_)
  rw [a1]
  have lt:=Heap.lt_size r2
  have h1:(F.push Du).get? a=some {cls:= .ref C,data:= .fields #[t,.none,.none,.none,.bool false,.none]}:=Heap.get?_push_of_some _ r2
  have J:a≠F.objs.size:=BP lt
  refine yo (wpAny_alloc (yo (wpAny_update h1 ?_)))
  have h2:((F.push Du).update a λo=>{cls:=o.cls,dict:=some F.objs.size,data:=o.data,slots:=o.slots}).get? a=some (kI C F.objs.size (some t)):=Heap.get?_update_self _ h1 rfl
  have h3:((F.push Du).update a λo=>{cls:=o.cls,dict:=some F.objs.size,data:=o.data,slots:=o.slots}).get? F.objs.size=some (Da [] 0):=(Heap.get?_update_other _ _ J).trans (Heap.get?_push_size _ rfl)
  refine yB (a:=some F.objs.size) (yo (yB (yo ?_)))
  unfold nsSet
  refine yo (yo (wpAny_askSetting (yB (yo (wpAny_mkText (yo (FG h3 ?_)))))))
  dsimp only [Da]
  rw [aRefKeyMayBeTheName_at,show (!(([]:List DictEntry).toArray.any (·.key.isStr (g.nm i))) && ([]:List DictEntry).toArray.any (·.refKey))=false from by simp]
  refine wpAny_updatePart h3 ?_
  have D':(((F.push Du).update a λo=>{cls:=o.cls,dict:=some F.objs.size,data:=o.data,slots:=o.slots}).update F.objs.size (Obj.putName (g.nm i) (PyData.keyHash g.w.params (g.nm i)) (.str (g.nm i) (tt+1)) v)).get? F.objs.size=some (Da (putL (g.nm i) (PyData.keyHash g.w.params (g.nm i)) (.str (g.nm i) (tt+1)) v []) (putN (g.nm i) [] 0)):=by
   rw [<- Hk]
   exact Heap.get?_update_self _ h3 (by rw [Hk];rfl)
  have ar:AR g [(i,y)] (putL (g.nm i) (PyData.keyHash g.w.params (g.nm i)) (.str (g.nm i) (tt+1)) v []):=AR.put gk hi hv (at':=[]) .nil
  refine yo (wpAny_lookBehind D' (pastItsLine_dict (by rw [yJ,Wp,ar.length];simp)) ?_)
  refine yB (qe () _ rfl ((r4 _ _ (Yj F.objs.size _ (putN (g.nm i) [] 0) ar rfl) λprot Z L=>?_).toks _) h)
  have keep: ∀b o,b≠a->F.get? b=some o->(((F.push Du).update a λo=>{cls:=o.cls,dict:=some F.objs.size,data:=o.data,slots:=o.slots}).update F.objs.size (Obj.putName (g.nm i) (PyData.keyHash g.w.params (g.nm i)) (.str (g.nm i) (tt+1)) v)).get? b=some o:=λb o hb e=>
   (Heap.get?_update_other _ _ λq=>BP (Heap.lt_size e) q.symm).trans ((Heap.get?_update_other _ _ (Ne.symm hb)).trans (Heap.get?_push_of_some _ e))
  have he:(((F.push Du).update a λo=>{cls:=o.cls,dict:=some F.objs.size,data:=o.data,slots:=o.slots}).update F.objs.size (Obj.putName (g.nm i) (PyData.keyHash g.w.params (g.nm i)) (.str (g.nm i) (tt+1)) v)).get? a=some (kI C F.objs.size (some t)):=(Heap.get?_update_other _ _ (Ne.symm J)).trans h2
  have L':Lay prot ((F.objs.size,Da (putL (g.nm i) (PyData.keyHash g.w.params (g.nm i)) (.str (g.nm i) (tt+1)) v []) (putN (g.nm i) [] 0))::(a,kI C F.objs.size (some t))::Z) (((F.push Du).update a λo=>{cls:=o.cls,dict:=some F.objs.size,data:=o.data,slots:=o.slots}).update F.objs.size (Obj.putName (g.nm i) (PyData.keyHash g.w.params (g.nm i)) (.str (g.nm i) (tt+1)) v)):=by
   have L1:=L.upd (λb x hb e=>keep b x hb e) he
   refine ⟨?_,λp hp=>?_,λp hp=>?_,L1.stays,L1.big,λp hp=>?_⟩
   ·rw [yH,Wd]
    refine qa (λhm=>?_) L1.nodup
    refine Or.elim (yy.mp hm) (λe=>?_) λhm=>?_
    ·exact J e.symm
    ·refine qf (yD.mp hm) λq hq e=>?_
     have:=L.old q (.tail _ hq)
     rw [e] at this;exact WL _ this
   ·rcases yy.mp hp with rfl|hp
    ·exact D'
    ·exact L1.there p hp
   ·rcases yy.mp hp with rfl|hp
    ·exact L.new (yM _)
    ·exact L1.fresh p hp
   ·rcases yy.mp hp with rfl|hp
    ·exact L.static (yM _)
    ·exact L1.low p hp
  exact L'.perm (.swap _ _ _)
end
section
variable {prog:DU} {w:DV} {M:Model} {A:y9} {E:yr->yF->Prop} {R:Result->yF->Prop} {h:W0} {g:Array Bc} {d:Drawn} {t:Nat} {os:F9}
variable {nm q:Str} {C N:yu} {bs bm:List yr} {hdct:Bool} {sn:List Str} {sub:List yr} {ab:Bool} {col:Option Bool} {dd:Option yu} {k0 k1 k2 k3 k5:Option yr} {B newId initId:String}
theorem QS (F:BQ B newId initId bm) (hC:h.get? C=some (BM nm q C N bs bm hdct sn sub ab col dd k0 k1 k2 k3 k5 newId))
  (hq:Q () ⟨h,g,d,t,os⟩):yP M A (checkBuiltinCall newId ⟨.ref C::rest,kw⟩) Q E ⟨h,g,d,t,os⟩:=by
 have c1:(Value.ref C::bm).contains (.type B)=true:=by rw [De,F.hasB,Hf]
 have c2:=F.noStar
 unfold checkBuiltinCall
 rw [F.newKind,F.newSplit,F.newRow]
 repeat (first|refine Dk hC ?_|(refine wpAny_isSubtype_exc hC ?_;rw [c1])|refine wpAny_staticBase_exc hC ?_|refine wpAny_madeBy_exc hC ?_|with_reducible refine KFB.if_not (bne_self_eq_false _) ?_|wp_step)
 exact hq
theorem ZX (F:BQ B newId initId bm) (hC:h.get? C=some (BM nm q C N bs bm hdct sn sub ab col dd k0 k1 k2 k3 k5 newId)) (hz:rest.length<=Be)
  (hq:R (.ok (.ret (.ref (h.objs.size+1)))) ⟨(h.push {cls:= .type "tuple",data:= .seq rest.toArray}).push
   {cls:= .ref C,data:= .fields #[.ref h.objs.size,.none,.none,.none,.bool false,.none]},g,d,t,os⟩):
  W9 (Wf prog w) A (.builtin newId ⟨.ref C::rest,kw⟩) R ⟨h,g,d,t,os⟩:=by
 have e1:=F.ends
 have c1:(Value.ref C::bm).contains (.type B)=true:=by rw [De,F.hasB,Hf]
 have c2:(Value.ref C::bm).contains (.type "AttributeError")=false:=by rw [De,F.noAttr];rfl
 have c3:(Value.ref C::bm).contains (.type "NameError")=false:=by rw [De,F.noName];rfl
 refine codeAny_builtinAt F.entry ?_
 unfold Builtin.«BaseException.__new__»
 refine PySem.wpAt_bind ?_
 show PySem.wpAt _ _ _ (stack>>=_) _ _ _
 refine PySem.wpAt_bind (PySem.wpAt_stack λp u=>PySem.wpAt_of_wpAny ?_)
 wp_walk
 refine PySem.wpAt_of_wpAny ?_
 rw [F.owner]
 repeat (first|with_reducible refine wpAny_madeHere_exc F.canon hC ?_|with_reducible refine Dk hC ?_|(with_reducible refine wpAny_isSubtype_exc hC ?_;first|rw [c1]|rw [c2]|rw [c3])|wp_step)
 show R _ _
 rw [Heap.size_push]
 exact hq
end
section
variable {prog:DU} {w:DV} {A:y9} {R:Result->yF->Prop} {h:W0} {g:Array Bc} {d:Drawn} {t:Nat} {os:F9}
variable {nm q:Str} {C N:yu} {bs bm:List yr} {hdct:Bool} {sn:List Str} {sub:List yr} {col:Option Bool} {dd:Option yu} {k0 k1 k2 k3 k5:Option yr} {B newId initId:String}
theorem vr (F:BQ B newId initId bm) {K:B0} (X:K.In h) (hC:h.get? C=some (BM nm q C N bs bm hdct sn sub false col dd k0 k1 k2 k3 k5 newId)) (hz:rest.length<=Be)
  (I:specialIn K (.ref C) "__call__"=some (some (.builtin "type.__call__"))) (J:instIn K (.ref C) (.type "type")=some true) (u:subIn K (.ref C) (.ref C)=some true)
  (hi:FO K (.ref C) "__init__"=some (some (.ref fI))) (hf:typeIn K (.ref fI)=some (.type "function"))
  (hq:W9 (Wf prog w) (A.under (.builtin "type.__call__" ⟨.ref C::rest,kw⟩)) (.call (.ref fI) ⟨.ref (h.objs.size+1)::rest,kw⟩) (InitBack (h.objs.size+1) R)
   ⟨(h.push {cls:= .type "tuple",data:= .seq rest.toArray}).push {cls:= .ref C,data:= .fields #[.ref h.objs.size,.none,.none,.none,.bool false,.none]},g,d,t,os⟩):
  W9 (Wf prog w) A (.call (.ref C) ⟨rest,kw⟩) R ⟨h,g,d,t,os⟩:=by
 have call:=looks_specialIn (M:=Wf prog w) X I
 have Z:=looks_instIn (M:=Wf prog w) X J
 refine codeAny_of_tree ?_
 show yP _ _ (callAny (.ref C) _) _ _ _
 refine nd_load hC ?_
 show yP _ _ (callAny.viaDunder (.ref C) _) _ _ _
 unfold callAny.viaDunder
 refine yo (call.at ?_)
 dsimp only
 rw [PySem.tc_bind]
 refine yo (yB (yo (yB ?_)))
 refine yB (a:=PySem.Fin.again (.call (.builtin "type.__call__") ⟨.ref C::rest,kw⟩)) (And.intro rfl ?_)
 refine codeAny_call_builtin_at (Code.quiet_builtin _ (by decide+kernel)) entry_typeCall (check_slot PySem.tc_kind PySem.tc_split Z (tc_args _ _ _) ?_)
 unfold Builtin.«type.__call__»
 have hm:Bv (Wf prog w) h (mroOf (.ref C)) (.ref C::bm):=((Looks.ld (part:=none) hC).andThen .now).andThen .now
 repeat (first|with_reducible refine KFB.if_not List.isEmpty_cons ?_|with_reducible refine wpAny_madeBy_exc hC ?_|with_reducible refine Dv ?_|lk)
 refine codeAny_call_builtin_code (Code.quiet_builtin _ F.quiet) (QS F hC (ZX F hC hz ?_))
 have k: ∀b o,h.get? b=some o->((h.push {cls:= .type "tuple",data:= .seq rest.toArray}).push {cls:= .ref C,data:= .fields #[.ref h.objs.size,.none,.none,.none,.bool false,.none]}).get? b=some o:=λb o e=>Heap.get?_push_of_some _ (Heap.get?_push_of_some _ e)
 have hx:((h.push {cls:= .type "tuple",data:= .seq rest.toArray}).push {cls:= .ref C,data:= .fields #[.ref h.objs.size,.none,.none,.none,.bool false,.none]}).get? (h.objs.size+1)=some {cls:= .ref C,data:= .fields #[.ref h.objs.size,.none,.none,.none,.bool false,.none]}:=by heap_get
 have t1:Bv (Wf prog w) ((h.push {cls:= .type "tuple",data:= .seq rest.toArray}).push {cls:= .ref C,data:= .fields #[.ref h.objs.size,.none,.none,.none,.bool false,.none]}) (Hm (.ref (h.objs.size+1))) (.ref C):=(Looks.ld hx).andThen .now
 have s1:=(HF (M:=Wf prog w) X u).keeps k
 have i1:=(looks_findIn (M:=Wf prog w) X hi).keeps k
 have b1:=(bind_fn (M:=Wf prog w) X (.ref (h.objs.size+1)) hf).keeps k
 unfold Dw callSpecial? specialOf
 repeat (first|with_reducible refine Dv ?_|lk)
 refine B3 hq λr s' z=>?_
 rcases r with e|(v|_|_|_)<;>first|exact z|exact z.elim|skip
 obtain ⟨rfl,z⟩:=z
 exact yB (yB z)
end
section
variable {g:G} {f:Fx} {n:Nat} {mg mb:Str->Option yr} {σ:St} {s:yF} {E:QE}
theorem xE.pushE {prot:W0} {u:List (yu × (Str->Option yr))} {H:List (yu × O)} (h:xE g prot u H s) {C:yu} {o:Obj} (hf:o.isFreed=false:=by rfl):
  xE g prot u ((s.heap.objs.size+1,.exc0 C (.ref s.heap.objs.size))::H) {s with heap:=(s.heap.push o).push {cls:= .ref C,data:= .fields #[.ref s.heap.objs.size,.none,.none,.none,.bool false,.none]}}:=by
 refine h.cons (N₁:=[_]) rfl λall L=>?_
 have:=(L.push o hf).push {cls:= .ref C,data:= .fields #[.ref s.heap.objs.size,.none,.none,.none,.bool false,.none]}
 rw [Heap.size_push] at this
 exact this.sub (.keep (.drop (Sub.refl _)))
noncomputable def makeX (K:B0) (C fI:yu):Bool:=(specialIn K (.ref C) "__call__"==some (some (.builtin "type.__call__"))) && (instIn K (.ref C) (.type "type")==some true) && (subIn K (.ref C) (.ref C)==some true) &&
 (FO K (.ref C) "__init__"==some (some (.ref fI))) && (typeIn K (.ref fI)==some (.type "function"))
theorem qs.makeX (gk:GOk g mg mb)
    {sub:List yr} (F:BQ B newId initId bm)
  (hC:g.K.lookup C=some (BM nm q C N bs bm hdct sn sub false col dd k0 k1 k2 k3 k5 newId)) (hz:xs.length<=1000) (hc:Mine.Internal.makeX g.K C fI=true)
  (h: ∀a t,qs g (k+1) hd (.ref fI) (.ref a::xs) kvs ((a,.exc0 C t)::H) (λy H'=>y= .none/\Q (.ref a) H') E'):qs g k hd (.ref C) xs kvs H Q E':=by
 intro prot J frames keep A s vs kw hK hh hG hv hk
 unfold Mine.Internal.makeX at hc
 simp only [BI,beq_iff_eq] at hc
 (refine qc hc λI c5=>?_;obtain ⟨⟨⟨c1,c2⟩,c3⟩,c4⟩:=I)
 have Z:g.base.StaysIn s.heap:=by
  refine xW hG λoo oo oo oo c oo=>?_
  exact λb o e=>c.stays b o (hK.base b o e)
 have X:g.K.In s.heap:=λa o e=>Z a o (gk.k a o e)
 have a0:=hG.pushE (C:=C) (o:={cls:= .type "tuple",data:= .seq vs.toArray})
 obtain ⟨u,gg,d,t,os⟩:=s
 refine vr F X (X _ _ hC) (by rw [hv.length,Wp];exact (ll0 hz rfl)) c1 c2 c3 c4 c5 ?_
 refine B3 (h (u.objs.size+1) _ prot J frames keep _ _ (.ref (u.objs.size+1)::vs) kw ⟨hK.frames,yU hK.units 1,yU hK.depth 1,hK.base,hK.hdc,hK.fun_,hK.guards⟩ hh a0 (.cons .ref hv) hk) λr s' hr=>?_
 rcases r with e|(_|_|_|v)
 ·exact hr
 ·exact hr.elim
 ·exact hr.elim
 ·exact hr.elim
 ·(refine xW hr λx H' k1 k2 z0 k3=>?_;clear hr;subst z0)
  obtain rfl:=k1
  exact qa rfl (qe _ H' (.ref) k2 k3)
end
section
variable {g:G} {f:Fx} {n:Nat} {mg mb:Str->Option yr} {σ:St} {s:yF} {E:QE} {Q:QV}
def PV:V->Option Int->Prop
 | .none,o=>o=none
 | .int i,o=>o=some i
 |_,_=>False
theorem PV.part (h:PV x o) (r:VR g x v):IsPart v o:=by
 cases x<;>first|exact h.elim|skip
 ·cases h;obtain rfl:=r;exact .none
 ·cases h;(refine qA r λoo z1=>?_;clear r;subst z1);exact .int _ _
theorem qv.bytes {lo hi:Option Int} (hl:PV l lo) (hu:PV u hi) (hz:b.length<=16777216) (h:Q (.bytes (KBy.picked b.toArray lo hi).toList) σ):qv g f n (.bytes b) l u Q E σ:=Op.mk λa v w pos ha hv hw A s hA hs=>by
 (refine qA ha λoo z2=>?_;clear ha;subst z2)
 unfold DM
 refine yo (BB (yo (Bh (yo ?_))) (by show 3<=_;decide))
 rw [Dp (by intro e;cases e)]
 refine yo (WH (T:="bytes") (W6 _ _ _) FB.slot_bytes_getitem.lookup ?_)
 refine yB (DG ?_)
 refine getItem_meets (W6 _ _ _) (by decide) FB.slot_bytes_getitem FB.entry_bytes_getitem (FB.args_bytes_getitem_2 _ _) (KBc.meets_slice2 b.toArray _ _ (hl.part hv) (hu.part hw))
  (qy (Heap.IsSliceOf.new _ _ _ _) (yX (KBc.size_picked_le b.toArray lo hi) (by rw [yJ,Wp];exact hz)) (λt' k=>(qe _ σ ?_ ((hs.new).toks _) h)))
 have:=VR.bytes (g:=g) (b:=(KBy.picked b.toArray lo hi).toList) (t:=t')
 rwa [Fq] at this
theorem QZ (h:VRs g xs vs) (lo hi:Option Int):VRs g ((xs.drop (lo.elim 0 (Bp xs.length))).take (hi.elim xs.length (Bp xs.length) - lo.elim 0 (Bp xs.length))) (slicePick vs.toArray lo hi none).toList:=by
 unfold slicePick
 rw [sliceBounds_plain]
 simp only [sliceRange_one,pick_run]
 have e:vs.toArray.size=xs.length:=by rw [yJ,h.length]
 rw [e]
 exact h.drop.take
theorem qv.list {lo hi:Option Int} (hm:(a,.list xs)∈σ.H) (hl:PV l lo) (hu:PV u hi) (hz:xs.length<=Be)
  (h: ∀c,Q (.ref c) {σ with H:=(c,.list ((xs.drop (lo.elim 0 (Bp xs.length))).take (hi.elim xs.length (Bp xs.length) - lo.elim 0 (Bp xs.length))))::σ.H}):qv g f n (.ref a) l u Q E σ:=Op.mk λr v w pos ha hv hw A s hA hs=>by
 obtain rfl:=ha
 refine qB (hs.list hm) λvs k hr e=>?_
 unfold DM
 refine yo (BB (yo (Bh (yo ?_))) (by show 3<=_;decide))
 rw [Dp (by intro e;cases e)]
 have C:=qz (Heap.get?_push_of_some {cls:= .type "slice",data:= .fields #[v,w,.none]} e)
 refine yo (WH (T:="list") C.typeIs Dj.lookup ?_)
 refine yB (DG ?_)
 refine Hn C (Heap.IsSliceOf.new ..) (hl.part hv) (hu.part hw) .none (by simp) ?_ (by rw [yJ,hr.length];exact hz)
 have q:=(hs.new (o:={cls:= .type "slice",data:= .fields #[v,w,.none]})).pushL (QZ hr lo hi)
 rw [Fq] at q
 exact qe _ _ (.ref) q (h _)
end
section
variable {g:G} {f:Fx} {n:Nat} {mg mb:Str->Option yr} {σ:St} {s:yF} {E:QE} {Q:QV} {i:Int}
theorem wK: ∀{vs:List yr},VRs g (ns.map V.int) vs->IntsAre vs ns:=by
 induction ns with
 |nil=>
  exact @λoo h=>by cases h;exact .nil
 |cons hd r ih=>
  exact @λoo h=>by (refine qk h λoo oo z3 z4 h2=>?_;clear h;subst z3;obtain ⟨_,rfl⟩:=z4);exact .cons _ _ (ih h2)
theorem qm.notInInts {ns:List Int} (hm:(a,.list (ns.map V.int))∈σ.H) (h:Q (.bool (!ns.any (· ==i))) σ):qm g f n .NotIn (.int i) (.ref a) Q E σ:=Op.mk λv w hv hw A s hA hs=>by
 (refine qA hv λoo z5=>?_;clear hv;subst z5);obtain rfl:=hw
 refine qB (hs.list hm) λvs k hr e=>?_
 exact notin_list_ints (qz e) (wK hr) (qe _ σ (.bool) hs h)
end
section
variable {g:G} {f:Fx} {n:Nat} {mg mb:Str->Option yr} {σ:St} {s:yF} {E:QE} {Q:QV} {i:Int}
theorem Ze (vs:List yr): ∀(n:Nat) (u:List yr),(Wo n vs.toArray).foldl (λa b=>a++b) u.toArray=(u++(Wo n vs).flatten).toArray
 |0,u=>by simp
 |n+1,u=>by
  rw [BG,Hy,DF,Ze vs n,BG,Wa,yG]
theorem VRs.reps (h:VRs g xs vs): ∀n:Nat,VRs g (Wo n xs).flatten (Wo n vs).flatten
 |0=> .nil
 |n+1=>by rw [BG,BG,Wa,Wa];exact h.append (VRs.reps h n)
theorem qo.rep (hm:(a,.list (x::xs))∈σ.H) (h0: -(2 ^ 63:Int)<=i) (h1:i<2 ^ 63) (hz:(xs.length+1)*i.toNat<=2 ^ 24) (h: ∀c,Q (.ref c) {σ with H:=(c,.list (Wo i.toNat (x::xs)).flatten)::σ.H}):qo g f n .Mult (.ref a) (.int i) Q E σ:=Op.mk λv w hv hw A s hA hs=>by
 obtain rfl:=hv;(refine qA hw λu z6=>?_;clear hw;subst z6)
 refine qB (hs.list hm) λvs k hr e=>?_
 have hl:vs.length=xs.length+1:=hr.length
 have C:vs.toArray.isEmpty=false:=by cases vs with|nil=>cases hl|cons _ _=>rfl
 refine wpAny_binaryOp_repeat_ref (T:="list") (U:="int") (by decide) (qj _ e rfl) (λs'=>typeIs_int s' i u) noFill_list_mul F.fills_int_mul F.slot_int_rmul repeat_list F.slot_int_index.lookup
  (F7 F.slot_int_rmul (typeIs_int s i u) F.entry_int_rmul (F.args_int_rmul_2 _ _) (int___rmul___int_list i u a vs.toArray k)
   ⟨e,rfl,(qj _ e rfl),F7 F.slot_list_mul (qj _ e rfl) F.entry_list_mul (F.args_list_mul_2 _ _)
    (AutoListH.list___mul___list_int_3 a vs.toArray k i u (by simp [Builtin.List.listFitsIndex];exact qa (za [.zl (.n (.k (2^63))) ZA] (.zl (.n UU) ZA) rfl h0) (za [.zt ZA (.k (2^63))] (.zt ZA UU) rfl h1)) (by rw [yJ,hl];exact (BK.mpr (zN [.nl VA (.k (2^24)),.ne (.a (.m 8 VB) VC) VD,.nt VC KI,.ne (.a VD KB) (.k (2^63))] (.nl VA VB) [8,8,-1,1,-1] rfl hz (Nat.div_add_mod _ 8) (Nat.mod_lt _ (by decide)) (yn (LB [] [] [] (.nl KB (.k (2^63))) [1] rfl))))) (by simp [Builtin.List.listTooLong,Be,hl];exact (ll0 hz rfl))) (qa e ?_)⟩)
 rw [C,if_neg (by decide)]
 have q:=Ze vs i.toNat []
 rw [DI] at q
 rw [show (#[]:Array yr)=([]:List yr).toArray from rfl,q]
 exact qe _ _ (.ref) (hs.pushL (VRs.reps hr _)) (h _)
theorem qm.neInts {ns ms:List Int} (hm:(a,.list (ns.map V.int))∈σ.H) (hk:(b,.list (ms.map V.int))∈σ.H) (hu:n+64<DY) (h:Q (.bool (!decide (ns=ms))) σ):qm g f n .NotEq (.ref a) (.ref b) Q E σ:=Op.mk λv w hv hw A s hA hs=>by
 obtain rfl:=hv;obtain rfl:=hw
 refine qB (hs.list hm) λvs k hr e=>?_
 refine qB (hs.list hk) λus k' u e'=>?_
 exact ke_ne_ints (qz e) (qz e') (wK hr) (wK u) (by have:=hA.units;exact (qR [.nt (.a VA (.k 64)) VB,.nl VC VA] (.nt (.a VC (.k 64)) VB) rfl hu this)) (qe _ σ (.bool) hs h)
end
noncomputable def xq (K:B0) {α:Type}:Nat->Sem α->Option α
 |0,_=>none
 |_+1,.pure b=>some b
 |n+1,.load a none k=>(K.lookup a).bind λo=>xq K n (k o)
 |_+1,_=>none
set_option tactic.hygienic true in
theorem xp {K:B0} (X:K.In s.heap) {Q:α->yF->Prop} {b:α} (hq:Q b s): ∀(n:Nat) (t:Sem α),xq K n t=some b->yP M A t Q E s:=by
 intro n
 induction n with
 |zero=>intro t h;cases h
 |succ n ih=>
  intro t h
  cases t<;>try (cases h)
  ·exact yB hq
  ·rename_i a p k
   cases p<;>try (cases h)
   replace h:(K.lookup a).bind (λo=>xq K n (k o))=some b:=h
   refine qf (Hs.mp h) λo ho h=>?_
   show yP M A (load a>>=k) Q E s
   exact yo (HM (X _ _ ho) (ih (k o) h))
noncomputable def fdO (K:B0) (fa:yu):Fa:=match K.lookup fa with|some ⟨_,_,.func fd,_⟩=>fd|_=>default
noncomputable def fnB (g:G) (fa:yu) (slots cids:List Nat) (lss:List SX):Bool:=match g.K.lookup fa with
 |some ⟨_,_,.func fd,_⟩=>codeIn g.K fd.code fd.qualname && fnC g fd slots cids && xP ⟨g.tab,fd.scope.names,slots⟩ lss
 |_=>false
structure xD (g:G) (fa:yu) (slots cids:List Nat) (lss:List SX):Prop where
 b:fnB g fa slots cids lss=true
 body:(fdO g.K fa).body= .stmts (xm ⟨g.tab,(fdO g.K fa).scope.names,slots⟩ lss)
 keep:keepIn g.K (.ref fa)=true
def Binds (g:G) (fa:yu) (xs:List V) (kvs ps:List (Nat × V)):Prop:=∀vs kw,VRs g xs vs->KWR g kvs kw->∃binds,xq g.K 9 (Fb (fdO g.K fa) ⟨vs,kw⟩)=some binds/\KWR g ps binds
section
variable {g:G} {f:Fx} {n:Nat} {mg mb:Str->Option yr} {σ:St} {s:yF} {E:QE} {Q:QV} {i j:Int}
theorem XE {K:B0} {P:Fa->Bool} (h:(match K.lookup fa with|some ⟨_,_,.func fd,_⟩=>P fd|_=>false)=true): ∃oc od fd u,K.lookup fa=some ⟨oc,od,.func fd,u⟩/\P fd=true:=by
 cases q:K.lookup fa with
 |none=>rw [q] at h;cases h
 |some o=>
  obtain ⟨c,d,dt,sl⟩:=o
  rw [q] at h
  cases dt<;>first|cases h;done|exact ⟨_,_,_,_,rfl,h⟩
theorem qs.def (gk:GOk g mg mb) {J ps:List (Nat × V)} {Q:V->List (yu × O)->Prop}
  (F:xD g fa slots cids lss) (C:k<W1) (hb:Binds g fa xs J ps) (Z:(ps.map (·.1)).Nodup) (a0: ∀p∈ps,p.1∈slots\/p.1∈cids)
  (hw: ∀f as,FOk g f->f.env.code=(fdO g.K fa).code->f.slots=slots->f.cells=cids.zip as->as.length=cids.length->f.hd=hd->
   wSs g f (k+3) lss (λfl σ'=>∃x H',(fl= .ret x\/(fl= .next/\x= .none))/\Sub H' σ'.H/\Q x H') (λx σ'=>∃H',Sub H' σ'.H/\E' x H')
    ⟨slots.map (ps.lookup ·),((cids.zip as).map λc=>(c.2,.cell (ps.lookup c.1)))++H⟩):qs g k hd (.ref fa) xs J H Q E':=by
 obtain ⟨hB,u,_⟩:=F
 unfold fnB at hB
 unfold Binds at hb
 unfold fdO at u hb hw
 obtain ⟨oc,od,fd,a1,ho,hB⟩:=XE hB
 rw [ho] at u hb hw
 refine qc (qh hB) λh1 h3=>?_
 refine qc (qh h1) λh1 h2=>?_
 refine qs.of_body gk ho h1 u h2 h3 C (λs vs kw X hv hk=>?_) Z a0 λf as ok e=>hw f as ok e.2
 refine qf (hb vs kw hv hk) λI e1 e2=>?_
 exact qj I (λM A E Q hq=>xp (λa o e=>X a o (gk.k a o e)) hq 9 _ e1) e2
theorem jw.nil {Q:St->Prop} (h:Q σ):jw g f n d [] Q E σ:=Op.mk λvs hv=>by
 obtain rfl:=hv;exact qI rfl h
theorem jw.cons (gk : GOk g mg mb) {Q : St -> Prop} {loc} (hk : k < g.tab.length) (u : HU d (.sdict es) (.sdict (kc es k y)) H H') (hz : es.length <= 1000)
    (h : jw g f n d r Q E ⟨loc, H'⟩) : jw g f n d ((.sym k, y) :: r) Q E ⟨loc, H⟩ := Op.mk λvs hv => by
  (refine qk hv λz7 r' z8 z9 h2 =>?_; clear hv; obtain ⟨a, b⟩ := z7; subst z8; obtain ⟨⟨_, t, ha⟩, hb⟩ := z9)
  dsimp only at ha hb
  subst ha
  intro A s hA hs
  have e0 : (do for (k, v) in (Value.str (g.nm k) t, b) :: r' do dictSet d k v : Sem Unit) = (dictSet d (.str (g.nm k) t) b >>= λoo => (do for (k, v) in r' do dictSet d k v : Sem Unit)) := by
    rw [Hz]
    show (((dictSet d (.str (g.nm k) t) b >>= λoo => pure (ForInStep.yield PUnit.unit)) >>= _) >>= _) = _
    rw [bind_assoc, bind_assoc]
    exact congrArg (dictSet d (.str (g.nm k) t) b >>= ·) (funext λoo => pure_bind _ _)
  rw [e0]
  refine qf (hs.sdict u.mem) λkvs hr e =>?_
  have nd : (kvs.map (·.1)).Nodup := by refine xB e λoo oo oo oo oo oo oo oo nd =>?_; exact nd
  refine yo (wpAny_dictSet_pairs (hsz := by rw [hr.length, Wp]; exact (ll0 hz rfl)) (F6 _ _ _ _) e λh' hd hsb =>?_)
  refine qf (Heap.dictOf_iff.mp hd) λo' ho' hd' =>?_
  exact h.h r' h2 A _ hA ((hs.upd1 u (λoo zf => zf.elim λoo zf => zf.elim λoo zf => zf.elim λoo zf => zf.elim λoo e => (qx _ e)) (qe _ _ (SR.put gk hk hb hr nd) hd' rfl) hsb ho').toks _)
end
namespace E
@[reducible] noncomputable def dict0 (p:Nat):EX:= .of (λN=> .Dict [] [] (P p)) (λN=>true) (λg f n Q E σ=>∀d,Q (.ref d) {σ with H:=(d,.sdict [])::σ.H})
 (λ{g f n mg mb} gk ok hc {Q E σ} w=>by
  show W g f n (VR g) (eval (.Dict [] [] (P p)) f.env) Q E σ
  rw [arm_eval_Dict]
  refine qi λA s hA hs=>?_
  show yP g.M A newDict _ _ s
  have hs':=hs.push (o:= .sdict []) (obj:={cls:= .type "dict",data:= .dict #[]}) ⟨[],_,rfl,Xt,rfl⟩
  exact yo (wpAny_alloc (yB ⟨_,_,.ref,hs',w _⟩))) λoo oo oo=>rfl
end E
inductive Rem {α:Type} (x:α):List α->List α->Prop
 |head {l}:Rem x (x::l) l
 |tail {y l l'}:Rem x l l'->Rem x (y::l) (y::l')
inductive qp {α:Type}:List α->List α->List α->Prop
 |nil {l}:qp [] l l
 |cons {x r l l' l''}:Rem x l l'->qp r l' l''->qp (x::r) l l''
theorem Rem.perm (h:Rem x l l'):l.Perm (x::l'):=by
 induction h with
 |head=>exact .refl _
 |tail _ ih=>exact (ih.cons _).trans (.swap _ _ _)
theorem qp.perm (h:qp a l b):l.Perm (a++b):=by
 induction h with
 |nil=>exact .refl _
 |cons h _ ih=>exact h.perm.trans (ih.cons _)
theorem Rem.right {x:α} {l l':List α} (h:Rem x l l'): ∀{m:List α},Rem x (m++l) (m++l')
 |[]=>h
 |_::m=> .tail (Rem.right h (m:=m))
theorem HU.right (h:HU a o o' r r'): ∀{m:List (yu × O)},HU a o o' (m++r) (m++r')
 |[]=>h
 |_::m=> .tail (HU.right h (m:=m))
noncomputable def nthO (l:List (yu × O)):Nat->Option (yu × O):=BH (motive:=λ_=>Nat->Option (yu × O)) (λ_=>none) (λa _ ih i=>Fz (motive:=λ_=>Option (yu × O)) (some a) (λj _=>ih j) i) l
theorem vd: ∀{i:Nat} {x:yu × O},nthO l i=some x->x∈l:=by
 induction l with
 |nil=>intro i x h;cases h
 |cons a r ih=>
  intro i x h
  cases i with
  |zero=>cases h;exact .head _
  |succ j=>exact .tail _ (ih h)
theorem pm (i:Nat) (h:nthO l i=some x):x∈l:=vd h
section
variable {l:List (yu × O)} {x:yu × O}
end
theorem rq1 (h:Rem x l l'):Rem x (a0::l) (a0::l'):= .tail h
theorem uq1 (h:HU a o o' l l'):HU a o o' (a0::l) (a0::l'):= .tail h
theorem rq2 (h:Rem x l l'):Rem x (a0::a1::l) (a0::a1::l'):=rq1 (rq1 h)
theorem uq2 (h:HU a o o' l l'):HU a o o' (a0::a1::l) (a0::a1::l'):=uq1 (uq1 h)
theorem rq4 (h:Rem x l l'):Rem x (a0::a1::a2::a3::l) (a0::a1::a2::a3::l'):=rq2 (rq2 h)
theorem uq4 (h:HU a o o' l l'):HU a o o' (a0::a1::a2::a3::l) (a0::a1::a2::a3::l'):=uq2 (uq2 h)
theorem rq8 (h:Rem x l l'):Rem x (a0::a1::a2::a3::a4::a5::a6::a7::l) (a0::a1::a2::a3::a4::a5::a6::a7::l'):=rq4 (rq4 h)
theorem uq8 (h:HU a o o' l l'):HU a o o' (a0::a1::a2::a3::a4::a5::a6::a7::l) (a0::a1::a2::a3::a4::a5::a6::a7::l'):=uq4 (uq4 h)
theorem wb (h:Rem x l l'):Rem x (a0::a1::a2::a3::a4::a5::a6::a7::a8::a9::a10::a11::a12::a13::a14::a15::l) (a0::a1::a2::a3::a4::a5::a6::a7::a8::a9::a10::a11::a12::a13::a14::a15::l'):=rq8 (rq8 h)
theorem wE (h:HU a o o' l l'):HU a o o' (a0::a1::a2::a3::a4::a5::a6::a7::a8::a9::a10::a11::a12::a13::a14::a15::l) (a0::a1::a2::a3::a4::a5::a6::a7::a8::a9::a10::a11::a12::a13::a14::a15::l'):=uq8 (uq8 h)
theorem rq0:Rem x (x::l) l:= .head
theorem uq0:HU a o o' ((a,o)::r) ((a,o')::r):= .head
theorem tk0 (h:qp r (l) l'):qp (x::r) (x::l) l':= .cons (rq0) h
theorem tk1 (h:qp r (a0::l) l'):qp (x::r) (a0::x::l) l':= .cons (rq1 rq0) h
theorem tk2 (h:qp r (a0::a1::l) l'):qp (x::r) (a0::a1::x::l) l':= .cons (rq2 rq0) h
theorem tk3 (h:qp r (a0::a1::a2::l) l'):qp (x::r) (a0::a1::a2::x::l) l':= .cons (rq2 (rq1 rq0)) h
theorem tk4 (h:qp r (a0::a1::a2::a3::l) l'):qp (x::r) (a0::a1::a2::a3::x::l) l':= .cons (rq4 rq0) h
theorem tk5 (h:qp r (a0::a1::a2::a3::a4::l) l'):qp (x::r) (a0::a1::a2::a3::a4::x::l) l':= .cons (rq4 (rq1 rq0)) h
theorem tk6 (h:qp r (a0::a1::a2::a3::a4::a5::l) l'):qp (x::r) (a0::a1::a2::a3::a4::a5::x::l) l':= .cons (rq4 (rq2 rq0)) h
theorem tk7 (h:qp r (a0::a1::a2::a3::a4::a5::a6::l) l'):qp (x::r) (a0::a1::a2::a3::a4::a5::a6::x::l) l':= .cons (rq4 (rq2 (rq1 rq0))) h
theorem tk8 (h:qp r (a0::a1::a2::a3::a4::a5::a6::a7::l) l'):qp (x::r) (a0::a1::a2::a3::a4::a5::a6::a7::x::l) l':= .cons (rq8 rq0) h
theorem tk9 (h:qp r (a0::a1::a2::a3::a4::a5::a6::a7::a8::l) l'):qp (x::r) (a0::a1::a2::a3::a4::a5::a6::a7::a8::x::l) l':= .cons (rq8 (rq1 rq0)) h
theorem Uo (h:qp r (a0::a1::a2::a3::a4::a5::a6::a7::a8::a9::l) l'):qp (x::r) (a0::a1::a2::a3::a4::a5::a6::a7::a8::a9::x::l) l':= .cons (rq8 (rq2 rq0)) h
theorem ZK (h:qp r (a0::a1::a2::a3::a4::a5::a6::a7::a8::a9::a10::l) l'):qp (x::r) (a0::a1::a2::a3::a4::a5::a6::a7::a8::a9::a10::x::l) l':= .cons (rq8 (rq2 (rq1 rq0))) h
section
variable {g:G} {f:Fx} {n:Nat} {mg mb:Str->Option yr} {σ:St} {E:QE} {Q:QV}
theorem jV [Decidable p] (h1:p->A) (h2:¬p->B):(decide p=true->A)/\(decide p=false->B):=(qa (λh=>h1 (of_decide_eq_true h)) (λh=>h2 (of_decide_eq_false h)))
theorem ke (h:A):(true=true->A)/\(true=false->B):=(qa (λoo=>h) (λh=>yQ h))
theorem qX (h:B):(false=true->A)/\(false=false->B):=(qa (λh=>yQ h) (λoo=>h))
theorem Ym (h:B):((!true)=true->A)/\((!true)=false->B):=(qa (λh=>yQ h) (λoo=>h))
theorem vo (h:A):((!false)=true->A)/\((!false)=false->B):=(qa (λoo=>h) (λh=>yQ h))
theorem qb.fn (gk:GOk g mg mb) (ok:FOk g f) {fa:yu} {slots C:List Nat} {lss:List SX} {xs:List V} {u:List (Nat × V)} {H₁ H₂:List (yu × O)} {Q':V->List (yu × O)->Prop} {E':Ex->List (yu × O)->Prop}
  (F:xD g fa slots C lss) (h:qs g n f.hd (.ref fa) xs u H₁ Q' E') (t:qp H₁ σ.H H₂)
  (hQ: ∀x H',Q' x H'->Q x ⟨σ.loc,H'++H₂⟩) (hE: ∀x H',E' x H'->E x ⟨σ.loc,H'++H₂⟩):qb g f n (.fix (.ref fa)) xs u Q E σ:=
 qb.of_fn gk ok (yM _) F.keep h t.perm hQ hE
theorem qb.cls (gk:GOk g mg mb) (ok:FOk g f)
  (hk:keepIn g.K (.ref C)=true) (h:qs g n f.hd (.ref C) xs kvs H₁ Q' E') (t:qp H₁ σ.H H₂)
  (hQ: ∀x H',Q' x H'->Q x ⟨σ.loc,H'++H₂⟩) (hE: ∀x H',E' x H'->E x ⟨σ.loc,H'++H₂⟩):qb g f n (.fix (.ref C)) xs kvs Q E σ:=
 qb.of_fn gk ok (yM _) hk h t.perm hQ hE
noncomputable abbrev U0 (Q:V->List (yu × O)->Prop):QF:=λfl σ'=>∃x H',(fl= .ret x\/(fl= .next/\x= .none))/\Sub H' σ'.H/\Q x H'
theorem xu {Q:V->List (yu × O)->Prop} (s:Sub H' σ.H) (h:Q x H'):U0 Q (.ret x) σ:=(qe x H' (.inl rfl) s h)
theorem zp {Q:V->List (yu × O)->Prop} (s:Sub H' σ.H) (h:Q .none H'):U0 Q .next σ:=(qe (.none) H' (.inr (qa rfl rfl)) s h)
end
structure ql (g:G) (own set:List (yu × Nat)) (mth:List (yu × Nat × yu)) (mk:List (yu × yu)):Prop where
 own:(own.all λp=>BA p.2 g.tab.length && ownC g.K p.1 (g.nm p.2))=true
 set:(set.all λp=>BA p.2 g.tab.length && setC g.K p.1 (g.nm p.2))=true
 mth:(mth.all λp=>BA p.2.1 g.tab.length && ue g.K p.1 p.2.2 (g.nm p.2.1))=true
 mkk:(mk.all λp=>ug g.K p.1 p.2 && keepIn g.K (.ref p.1))=true
section
variable {g:G} {f:Fx} {n:Nat} {mg mb:Str->Option yr} {σ:St} {E:QE} {Q:QV} {own set:List (yu × Nat)} {mth:List (yu × Nat × yu)} {mk:List (yu × yu)}
theorem j0 {α:Type} [BEq α] [LawfulBEq α] {l:List α} {p:α->Bool} (h:l.all p=true) {x:α} (hx:l.contains x=true):p x=true:=yY.mp h x (WK.mp hx)
theorem ql.a (T:ql g own set mth mk) (gk:GOk g mg mb) (ok:FOk g f) {a C:yu} (hm:(a,.inst C at' kx)∈σ.H) (hc:own.contains (C,i)=true) (hl:at'.lookup i=some x) (hv:vi x=true)
  (h:Q x σ):zT g f n (.ref a) i Q E σ:=by
 refine qc (qh (j0 T.own hc)) λh1 h2=>?_
 exact zT.own gk ok hm (yL.mp h1) hl h2 hv h
theorem ql.s (T:ql g own set mth mk) (gk:GOk g mg mb) (ok:FOk g f) {a C:yu} {Q:St->Prop} (u:HU a (.inst C at' kx) (.inst C (kc at' i y) kx) σ.H H') (hc:set.contains (C,i)=true)
  (hz:WQ (kc at' i y).length 1000=true) (h:Q ⟨σ.loc,H'⟩):zr g f n (.ref a) i y Q E σ:=by
 refine qc (qh (j0 T.set hc)) λh1 h2=>?_
 exact zr.inst gk ok u (yL.mp h1) h2 (HN.mp hz) h
theorem ql.m (T:ql g own set mth mk) (gk:GOk g mg mb) (ok:FOk g f) {a C fa:yu} {Q:V × List V->St->Prop} (hm:(a,.inst C at' kx)∈σ.H) (hc:mth.contains (C,i,fa)=true) (hl:at'.lookup i=none)
  (h:Q (.fix (.ref fa),[.ref a]) σ):zE g f n (.ref a) i Q E σ:=by
 refine qc (qh (j0 T.mth hc)) λh1 h2=>?_
 exact zE.inst gk ok hm (yL.mp h1) hl h2 h
theorem ql.make (T:ql g own set mth mk) (gk:GOk g mg mb) (ok:FOk g f) {Q':yu->List (yu × O)->Prop}
  (hc:mk.contains (C,fI)=true) (h: ∀a,qs g (n+1) f.hd (.ref fI) (.ref a::xs) kvs [(a,.inst C [] none)] (λy H'=>y= .none/\Q' a H') E')
  (hQ: ∀a H',Q' a H'->Q (.ref a) ⟨σ.loc,H'++σ.H⟩) (hE: ∀x H',E' x H'->E x ⟨σ.loc,H'++σ.H⟩):qb g f n (.fix (.ref C)) xs kvs Q E σ:=by
 refine qc (qh (j0 T.mkk hc)) λh1 h2=>?_
 refine qb.cls gk ok h2 (qs.make gk h1 (H:=[]) (Q:=λx H'=>∃a,x= .ref a/\Q' a H') λa=>?_) .nil (λx H' hq=>?_) hE
 ·intro prot u frames keep A s vs kw h1 h2 h3 h4 h5
  refine B3 (h a prot u frames keep A s vs kw h1 h2 h3 h4 h5) λr s' hr=>?_
  rcases r with e|(_|_|_|v)
  ·exact hr
  ·exact hr
  ·exact hr
  ·exact hr
  ·refine xW hr λx H' k1 k2 k3 k4=>?_
   exact Qi x H' k1 k2 k3 (qj a rfl k4)
 ·obtain ⟨a,rfl,hq⟩:=hq
  exact hQ a H' hq
theorem qs.mono {Q Q':V->List (yu × O)->Prop} {E E':Ex->List (yu × O)->Prop} (h:qs g k hd fv xs kvs H Q E) (hQ: ∀x H,Q x H->Q' x H) (hE: ∀x H,E x H->E' x H):qs g k hd fv xs kvs H Q' E':=by
 intro prot u frames keep A s vs kw h1 h2 h3 h4 h5
 refine B3 (h prot u frames keep A s vs kw h1 h2 h3 h4 h5) λr s' hr=>?_
 rcases r with e|(_|_|_|v)
 ·refine qk hr λx H' k1 k2 k3=>?_;exact qe x H' k1 k2 (hE _ _ k3)
 ·exact hr
 ·exact hr
 ·exact hr
 ·refine qk hr λx H' k1 k2 k3=>?_;exact qe x H' k1 k2 (hQ _ _ k3)
end
noncomputable def x8:List Nat->Bool
 |[]=>true
 |a::r=> !r.contains a && x8 r
theorem zu:x8 l=true->l.Nodup:=by
 induction l with
 |nil=>
  exact @λoo=>WW
 |cons a r ih=>
  exact @λh=>by
   refine qc (qh h) λh1 h2=>?_
   rw [Wd]
   refine ⟨λm=>?_,ih h2⟩
   rw [WK.mpr m] at h1;cases h1
section
variable {g:G} {f:Fx} {n:Nat} {mg mb:Str->Option yr} {σ:St} {E:QE} {Q:QV}
theorem qs.def0 (gk:GOk g mg mb) {u ps:List (Nat × V)} {Q:V->List (yu × O)->Prop}
  (F:xD g fa slots [] lss) (hk:k<900) (hb:Binds g fa xs u ps) (I:x8 (ps.map (·.1))=true) (J:(ps.all λp=>slots.contains p.1)=true) (loc:List (Option V)) (C:loc=slots.map (ps.lookup ·))
  (hw: ∀f,FOk g f->f.hd=hd->wSs g f (k+3) lss (U0 Q) (λx σ'=>∃H',Sub H' σ'.H/\E' x H') ⟨loc,H⟩):qs g k hd (.ref fa) xs u H Q E':=by
 subst C
 refine qs.def gk F (Bx hk (by decide)) hb (zu I) (λp hp=> .inl (WK.mp (yY.mp J p hp))) λf as ok oo hs hc hl hh=>?_
 exact hw f ok hh
theorem Binds.one (h: ∀v1,xq g.K 9 (Fb (fdO g.K fa) ⟨[v1],[]⟩)=some [(g.nm i,v1)]) (hi:BA i g.tab.length=true):Binds g fa [x] [] [(i,x)]:=λvs kw hv hk=>by
 (refine qk hv λv1 oo u h1 e=>?_;clear hv;subst u)
 obtain rfl:=e;obtain rfl:=hk
 exact qj _ (h v1) (.cons (qy (yL.mp hi) rfl h1) .nil)
theorem Binds.two (h: ∀v1 v2,xq g.K 9 (Fb (fdO g.K fa) ⟨[v1,v2],[]⟩)=some [(g.nm i,v1),(g.nm j,v2)]) (hi:(BA i g.tab.length && BA j g.tab.length)=true):Binds g fa [x,y] [] [(i,x),(j,y)]:=λvs kw hv hk=>by
 (refine qk hv λv1 oo F h1 u=>?_;refine qk u λv2 oo C h2 e=>?_;clear hv;subst F;subst C)
 obtain rfl:=e;obtain rfl:=hk
 refine qc (qh hi) λhi hj=>?_
 exact qj _ (h v1 v2) (.cons (qy (yL.mp hi) rfl h1) (.cons (qy (yL.mp hj) rfl h2) .nil))
theorem Binds.three (h: ∀v1 v2 v3,xq g.K 9 (Fb (fdO g.K fa) ⟨[v1,v2,v3],[]⟩)=some [(g.nm i,v1),(g.nm j,v2),(g.nm k,v3)]) (hi:(BA i g.tab.length && BA j g.tab.length && BA k g.tab.length)=true):Binds g fa [x,y,z] [] [(i,x),(j,y),(k,z)]:=λvs kw hv hk=>by
 (refine qk hv λv1 oo J h1 C=>?_;refine qk C λv2 oo I h2 u=>?_;refine qk u λv3 oo F h3 e=>?_;clear hv;subst J;subst I;subst F)
 obtain rfl:=e;obtain rfl:=hk
 refine qc (qh hi) λhi hl=>?_
 refine qc (qh hi) λhi hj=>?_
 exact qj _ (h v1 v2 v3) (.cons (qy (yL.mp hi) rfl h1) (.cons (qy (yL.mp hj) rfl h2) (.cons (qy (yL.mp hl) rfl h3) .nil)))
end
noncomputable def cut {α:Type} (xs:List α) (p q:Int):List α:=(xs.drop p.toNat).take (q.toNat - p.toNat)
theorem jW (xs:List α) (hp:0<=p) (hq:0<=q):(xs.drop (Bp xs.length p)).take (Bp xs.length q - Bp xs.length p)=cut xs p q:=by
 have e: ∀i:Int,0<=i->Bp xs.length i=min i.toNat xs.length:=λi hi=>by
  (refine qA (Ht hi) λk g=>?_;subst g)
  unfold Bp
  rw [if_neg (Bw.mpr hi),yW]
  by_cases h:k<=xs.length
  ·rw [BU (Fk.mpr h),Wz h];rfl
  ·rw [Ho (Fk.mpr (Nat.le_of_not_le h)),B5 (Nat.le_of_not_le h)];rfl
 rw [e p hp,e q hq]
 unfold cut
 apply D1
 intro k
 rw [FQ,FQ,WZ,WZ]
 by_cases h:p.toNat<=xs.length
 ·rw [Wz h]
  by_cases h2:q.toNat<=xs.length
  ·rw [Wz h2]
  ·rw [B5 (by exact (yV (WC h2)))]
   by_cases h3:p.toNat+k<xs.length
   ·rw [if_pos (by exact (zN [.nt (.a VA VB) VC,.ne (.a VD VA) VC] (.nt VB VD) [1,1,-1] rfl h3 (yn h))),if_pos (by exact (LB [_,_,_,_,_] [] [.nt VA VB,.nt (.a VC VD) VA,.ne (.a VE VC) VB] (.nt VD VE) [1,1,1,-1] rfl (WC h2) h3 (yn (qR [.nl VA VB,.nt VB VC] (.nl VA VC) rfl h (WC h2)))))]
   ·rw [W2 (by exact (Wg h3)),ite_self,ite_self]
 ·rw [B5 (a:=p.toNat) (by exact (yV (WC h))),W2 (by exact (qq [] (.nl VA (.a VA VB)) rfl)),W2 (by exact (qR [.nt VA VB] (.nl VA (.a VB VC)) rfl (WC h))),ite_self,ite_self]
theorem Jl (xs:List α) (p q:Int):(cut xs p q).length=min (q.toNat - p.toNat) (xs.length - p.toNat):=by unfold cut;simp
theorem uy (xs:List α) (p q:Int):(cut xs p q).length<=xs.length:=by rw [Jl];exact yX (Fc _ _) (Nat.sub_le _ _)
section
variable {g:G} {f:Fx} {n:Nat} {mg mb:Str->Option yr} {σ:St} {s:yF} {E:QE} {Q:QV} {i j:Int}
theorem qv.cutB (hi:0<=i) (hj:0<=j) (hz:b.length<=16777216) (h:Q (.bytes (cut b i j)) σ):qv g f n (.bytes b) (.int i) (.int j) Q E σ:=by
 refine qv.bytes (lo:=some i) (hi:=some j) rfl rfl hz ?_
 rw [KBc.picked_eq]
 simp only [DB,yJ]
 rw [jW b hi hj]
 exact h
theorem qv.cutL (hm:(a,.list xs)∈σ.H) (hi:0<=i) (hj:0<=j) (hz:xs.length<=16777216) (h: ∀c,Q (.ref c) ⟨σ.loc,(c,.list (cut xs i j))::σ.H⟩):qv g f n (.ref a) (.int i) (.int j) Q E σ:=by
 refine qv.list hm (lo:=some i) (hi:=some j) rfl rfl (by rw [Wp];exact hz) λc=>?_
 simp only [DB]
 rw [jW xs hi hj]
 exact h c
theorem qv.takeL (hm:(a,.list xs)∈σ.H) (hj:0<=j) (hz:xs.length<=16777216) (h: ∀c,Q (.ref c) ⟨σ.loc,(c,.list (xs.take j.toNat))::σ.H⟩):qv g f n (.ref a) .none (.int j) Q E σ:=by
 refine qv.list hm (lo:=none) (hi:=some j) rfl rfl (by rw [Wp];exact hz) λc=>?_
 have:=jW xs (Bk 0) hj
 have e0:Bp xs.length 0=0:=by unfold Bp;rw [if_neg (by exact (Bw.mpr (LB [] [] [] (.zl UA UA) [1] rfl)))];exact (uA [.ze (.c VA) ZA,.ze ZA ZB,.ze ZB UA] (.ne VA KA) [1,0,0,0] [1,1,1,1] rfl (yz (vt [.ze ZA ZB,.ze ZB UA] (.zl UA ZA) [1,-1,-1] rfl (WS (F8.mpr (qa (LB [] [] [] (.zl UA UA) [1] rfl) (yt _)))) (BU (yt _)))) (WS (F8.mpr (qa (LB [] [] [] (.zl UA UA) [1] rfl) (yt _)))) (BU (yt _)))
 rw [e0] at this
 simp only [DB]
 rw [this]
 exact h c
theorem Xr.int (hi: -1000000000000000000<i/\i<1000000000000000000) (h: ∀t:Str,t.length<=100->Q (.str t) σ):Xr g f n (.int i) Q E σ:=Op.mk λa ha A s hA hs=>by
 (refine qA ha λoo u=>?_;clear ha;subst u)
 have hl:i.natAbs.log2<60:=by
  by_cases h0:i.natAbs=0
  ·rw [h0];decide
  ·refine (Nat.log2_lt h0).mpr ?_
   have:(2:Nat) ^ 60=1152921504606846976:=by decide
   rw [this];(first|lia|omega)
 refine wpAny_formatField_int (Bx hl (by decide)) (qe (.str (Str.ofString (toString i))) σ (.str) (hs.toks _) (h _ ?_))
 rw [PySem.ofString_length]
 exact yX (int_text_length_le (k:=60) (by decide) hl) (by decide)
theorem X9 {ns:List Int}: ∀{vs:List yr} {h:W0},VRs g (ns.map V.int) vs->ReadsAll h vs (ns.map PyData.int) []:=by
 induction ns with
 |nil=>
  exact @λoo oo h=>by cases h;exact .nil
 |cons hd r ih=>
  exact @λoo oo h=>by (refine qk h λoo oo C u h2=>?_;clear h;subst C;obtain ⟨_,rfl⟩:=u);exact ReadsAll.cons (.int _ _) (ih h2)
theorem Um:fillsInplaceSlot (.type "list") "add" true=pure false:=by
 unfold fillsInplaceSlot
 dsimp only
 rw [PySem.F.slot_list_iadd.lookup]
 kernel_rfl
theorem YI:seqSlot? (.type "list") (dunderI "add")=pure (some (.builtin "list.__iadd__")):=PySem.seqSlot_of PySem.F.slot_list_iadd.lookup (by decide+kernel)
theorem zG.cat (u:HU a (.list xs) (.list (xs++ys)) σ.H H') (hk:(b,.list ys)∈σ.H) (hz:xs.length+ys.length<=16777216) (h:Q (.ref a) ⟨σ.loc,H'⟩):zG g f n .Add (.ref a) (.ref b) Q E σ:=Op.mk λv w hv hw A s hA hs=>by
 obtain rfl:=hv;obtain rfl:=hw
 refine qB (hs.list u.mem) λvs k hr e=>?_
 refine qB (hs.list hk) λus k' C e'=>?_
 have ta:s.TypeIs (.ref a) "list":=(qj _ e rfl)
 have tb:s.TypeIs (.ref b) "list":=(qj _ e' rfl)
 have l1:vs.toArray.size=xs.length:=by rw [yJ,hr.length]
 have l2:us.toArray.size=ys.length:=by rw [yJ,C.length]
 have hc:=F7 (prog:=g.prog) (w:=g.w) (A:=A) (E:=EP g f E) (Q:=λv s'=>∃x σ',VR g x v/\Rep g f σ' s'/\Q x σ') PySem.F.slot_list_iadd ta PySem.F.entry_list_iadd (PySem.F.args_list_iadd_2 _ _)
  (AutoSeq1.list___iadd___list_list_0 a vs.toArray k b us.toArray k' (by rw [l1,l2];simp [Builtin.List.listTooLong,Be];exact (λy3=>hz)) (by rw [l1,Wp];exact (qq [.nl (.a VA VB) KT] (.nl VA KT) rfl hz)) (by rw [l1,l2,Wp];exact (qq [.nl (.a VA VB) KT] (.nl (.a VA VB) (.a KT KB)) rfl hz)))
  ⟨e,e',by
   have q:=PySem.IsL.update e (λx=>x++us.toArray)
   rw [DF] at q
   exact qe _ _ VR.ref (hs.upd1 u list1 (qU _ _ (hr.append C) rfl) (Heap.SameBut.update ..) q) h⟩
 unfold inplaceOp
 refine Wr (yo (DQ ta (yo (DC Um ?_))))
 show yP _ _ (if false=true then _ else _) _ _ s
 rw [if_neg WY]
 refine yo (wpAny_binaryOp1_none (nm:="add") ta tb noFill_list_add ?_)
 refine yo (DC YI ?_)
 exact yo (wpAny_rule hc)
end
section
variable {g:G} {f:Fx} {n:Nat} {mg mb:Str->Option yr} {σ:St} {s:yF} {E:QE} {Q:QV} {i j:Int}
/- data compared -/
theorem kO: ∀{ns:List Int},PyData.canLayAll0 (ns.map .int)=true/\PyData.depthAll (ns.map .int)=0
 |[]=>(qa rfl rfl)
 |a::ns=>(qa (by show (true && PyData.canLayAll0 (ns.map .int))=true;rw [kO.1];rfl) (by show max 0 (PyData.depthAll (ns.map .int))=0;rw [kO.2];rfl))
theorem Rep.readsT (hs:Rep g f σ s) {ns:List Int} (hm:(a,.tup (ns.map V.int))∈σ.H):Reads s.heap (.ref a) (.tuple (ns.map .int)) []:=by
 refine qB (hs.tup hm) λvs k hr e=>?_
 exact Reads.tuple e rfl rfl (X9 hr)
/- max,min,divmod -/
theorem Rep.grown (hs:Rep g f σ s) (k: ∀c o,s.heap.get? c=some o->h'.get? c=some o):Rep g f σ {s with heap:=h',toks:=tk}:=by
 refine ja hs λm u N x1 x2 x3 x4 x5=>?_
 exact ji m u N x1 x2 (x3.keeps k) x4 x5
theorem qb.max (hd:f.hd=none) (h:Q (.int (max i j)) σ):qb g f n (.fix (.builtin "max")) [.int i,.int j] [] Q E σ:=
 qb.of_builtin rfl λvs kw hv hk A s hA hs=>by
  obtain rfl:=hk
  (refine qk hv λoo oo J I u=>?_;refine qk u λoo oo F C e=>?_;clear hv;subst J;obtain ⟨_,rfl⟩:=I;subst F;obtain ⟨_,rfl⟩:=C)
  obtain rfl:=e
  refine max_two_ints (hA.hd.trans hd) λh' tk k=>(qe (.int (Max.max i j)) σ ?_ (hs.grown k) h)
  split
  ·rw [show Max.max i j=j from by exact (LA02 [.ze ZA ZB] (.ze ZA ZB) [1,-1] [1,1] rfl (WS (QH [.zt ZA ZB] (.zl ZA ZB) rfl (by assumption))))];exact .int
  ·rw [show Max.max i j=i from by (first|lia|omega)];exact .int
theorem qb.min (hd:f.hd=none) (h:Q (.int (min i j)) σ):qb g f n (.fix (.builtin "min")) [.int i,.int j] [] Q E σ:=
 qb.of_builtin rfl λvs kw hv hk A s hA hs=>by
  obtain rfl:=hk
  (refine qk hv λoo oo J I u=>?_;refine qk u λoo oo F C e=>?_;clear hv;subst J;obtain ⟨_,rfl⟩:=I;subst F;obtain ⟨_,rfl⟩:=C)
  obtain rfl:=e
  refine min_two_ints (hA.hd.trans hd) λh' tk k=>(qe (.int (Min.min i j)) σ ?_ (hs.grown k) h)
  split
  ·rw [show Min.min i j=j from by exact (LA02 [.ze ZA ZB] (.ze ZA ZB) [1,-1] [1,1] rfl (Ho (QH [.zt ZA ZB] (.zl ZA ZB) rfl (by assumption))))];exact .int
  ·rw [show Min.min i j=i from by (first|lia|omega)];exact .int
noncomputable def jz (ns:List Int):List UInt8:=ns.map λk=>k.toNat.toUInt8
theorem qb.bytes (hd:f.hd=none) (hm:(a,.list (ns.map V.int))∈σ.H) (hr: ∀k∈ns,0<=k/\k<256) (hz:ns.length<=16777216) (h:Q (.bytes (jz ns)) σ):qb g f n (.fix (.type "bytes")) [.ref a] [] Q E σ:=
 qb.of_builtin rfl λvs kw hv hk A s hA hs=>by
  obtain rfl:=hk
  (refine qk hv λoo oo C h1 e=>?_;clear hv;subst C)
  obtain rfl:=h1;obtain rfl:=e
  refine qB (hs.list hm) λus k u e=>?_
  refine call_bytes_ints (qz e) (wK u) hr (by rw [u.length,yq,Wp];exact hz) (hA.hd.trans hd) λh' t k hk=>(qe (.bytes (jz ns)) σ (qx t rfl) (hs.grown hk) h)
theorem wD.tup (hd:f.hd=none) {Q:List V->St->Prop} (hm:(a,.tup xs)∈σ.H) (hk:xs.length=k) (h:Q xs σ):wD g f n (.ref a) k Q E σ:=Op.mk λv hv A s hA hs=>by
 obtain rfl:=hv
 refine qB (hs.tup hm) λvs c hr e=>?_
 have hl:k=vs.toArray.size:=by rw [yJ,hr.length];exact hk.symm
 rw [hl]
 refine wpAny_unpackItems_tuple (hA.hd.trans hd) (qK _ e rfl (qx _ rfl)) λh' hb=>(qe xs σ (qa hr (hk.trans hl)) (hs.grown (tk:=s.toks) λb o u=>hb b o (BP (Heap.lt_size u)) u) h)
end
theorem wz:Slot "wrapper_descriptor" "__get__" "wrapper_descriptor.__get__":= .of (owner:="wrapper_descriptor") (n:="__get__") (by rw [BV,Bb];kernel_rfl) (by decide+kernel) (by decide+kernel) (by decide+kernel)
 (by first|exact .inl (by decide+kernel)|exact .inr (by decide+kernel)) (by rw [FI];kernel_rfl)
theorem Zs:entryFor table "wrapper_descriptor.__get__"=some Builtin.«wrapper_descriptor.__get__»:=entryFor_of_tree (by kernel_rfl)
theorem Xd (a b c:yr):argsOk "wrapper_descriptor.__get__" ⟨[a,b,c],[]⟩:=by unfold argsOk;kernel_rfl
theorem vz:Hm (.builtin "Exception.__init__")=pure (.type "wrapper_descriptor"):=by show builtinType _=_;rw [builtinType_eq_fast];kernel_rfl
theorem YU:(".".intercalate ("Exception.__init__".cutAt '.').dropLast)="Exception":=by kernel_rfl
section
variable {prog:DU} {w:DV} {M:Model} {A:y9} {E:yr->yF->Prop} {h:W0} {g:Array Bc} {d:Drawn} {t:Nat} {os:F9}
noncomputable abbrev zB (x:yu):Obj:={cls:= .type "method-wrapper",data:= .fields #[.builtin "Exception.__init__",.ref x]}
theorem u7 {K:B0}
  (u:h.get? so=some {cls:= .type "super",dict:=none,data:= .fields #[.ref D,.ref x,.ref C],slots:= #[]}) (a0:Bv (Wf prog w) h (opaqueClassAbove (.ref C)) none)
  (hC:Bv (Wf prog w) h (mroOf (.ref C)) l₀) (hl:(l₀.dropWhile (· != .ref D)).drop 1=l) (X:K.In h) (hx:h.get? x=some ox) (J:ox.cls= .ref C) (hsub:Bv (Wf prog w) h (isSubtype (.ref C) (.type "Exception")) true)
  (hf:alongIn K name l=some (some (.builtin "Exception.__init__"))) (Z:x≠C) (hn:(name==("__class__":Str))=false)
  (hq:Q (.done (.ret (.ref h.objs.size))) ⟨h.push (zB x),g,d,t,os⟩):
  yP (Wf prog w) A (Builtin.«super.__getattribute__» ⟨[.ref so,.str name tk],[]⟩) Q E ⟨h,g,d,t,os⟩:=by
 have a3:=wz.lookup
 have a1:(Value.ref x==Value.ref C)=false:=by simp -iota [Z]
 have a2:(if ((if (Value.ref x==Value.ref C)=true then Value.none else Value.ref x)==Value.none)=true then none else some (if (Value.ref x==Value.ref C)=true then Value.none else Value.ref x))=some (Value.ref x):=by rw [a1];rfl
 have I:(⟨h,g,d,t,os⟩:yF).TypeIs (.builtin "Exception.__init__") "wrapper_descriptor":=vz
 have F:({cls:= .type "super",dict:=none,data:= .fields #[.ref D,.ref x,.ref C],slots:= #[]}:Obj).data= .fields #[.ref D,.ref x,.ref C]:=rfl
 have f0:(#[.ref D,.ref x,.ref C]:Array yr)[0]? =some (.ref D):=rfl
 have f1:(#[.ref D,.ref x,.ref C]:Array yr)[1]? =some (.ref x):=rfl
 have f2:(#[.ref D,.ref x,.ref C]:Array yr)[2]? =some (.ref C):=rfl
 unfold Builtin.«super.__getattribute__»
 repeat (first
  |(with_reducible refine Bn u F f0 ?_)|(with_reducible refine Bn u F f1 ?_)|(with_reducible refine Bn u F f2 ?_)
  |(with_reducible refine ks_wpAny_notOpaque a0 ?_)
  |(with_reducible refine Looks.at hC ?_;rw [hl])
  |(refine ks_forIn_along X (λoo oo=>rfl) rfl ?_ hf)
  |(with_reducible refine DQ I ?_)
  |(with_reducible refine Fd wz I Zs ?_ (Xd _ _ _))
  |(with_reducible refine Dk hx ?_;rw [J])
  |(rw [YU];with_reducible refine Looks.at hsub ?_)
  |(with_reducible refine qj _ rfl ?_)
  |(with_reducible refine KFB.if_not hn ?_)
  |rw [a2]
  |wp_step
  |dsimp only)
 all_goals exact hq
theorem YL {K:B0}
  (u:h.get? so=some {cls:= .type "super",dict:=none,data:= .fields #[.ref D,.ref x,.ref C],slots:= #[]}) (a3:Bv (Wf prog w) h (opaqueClassAbove (.ref C)) none)
  (hC:Bv (Wf prog w) h (mroOf (.ref C)) l₀) (hl:(l₀.dropWhile (· != .ref D)).drop 1=l) (X:K.In h) (hx:h.get? x=some ox) (a1:ox.cls= .ref C) (hsub:Bv (Wf prog w) h (isSubtype (.ref C) (.type "Exception")) true)
  (hf:alongIn K name l=some (some (.builtin "Exception.__init__"))) (a2:x≠C) (hn:(name==("__class__":Str))=false)
  (hq:Q (.ref h.objs.size,[]) ⟨h.push (zB x),g,d,t+1,os⟩):
  yP (Wf prog w) A (getMethod (.ref so) name pl) Q E ⟨h,g,d,t,os⟩:=by
 have I:=F.ks_slot_super_ga.lookup
 have J:=F.ks_canon_super_ga
 have hT: ∀t',(⟨h,g,d,t',os⟩:yF).TypeIs (.ref so) "super":=λoo=>(qj _ u rfl)
 unfold getMethod
 refine yo (WH (hT _) I ?_)
 show yP _ _ (if (Manifest.canonical "super.__getattribute__" !="object.__getattribute__")=true then _ else _) _ _ _
 rw [if_pos J]
 unfold getAttr getAttrBy
 refine yo (yo (wpAny_mkText (Wr (yo (DQ (hT _) (yo (DC I ?_)))))))
 show yP _ _ (getAttrByItsOwn (.ref so) (.str name t) (.type "super") (.builtin "super.__getattribute__") true false) _ _ _
 unfold getAttrByItsOwn hookBefore callGetattribute boundAndCalled
 refine yo (DC (show (if onTheHeap (.type "super") then Fp (.type "super") "__getattr__" else pure none)=pure none from rfl) ?_)
 refine yo (wpAny_attempt (Wr ?_))
 show yP _ _ (bindSpecial (.builtin "super.__getattribute__") (.ref so)>>=_) _ _ _
 refine yo (DC (F.ks_slot_super_ga.bind _) ?_)
 refine yK (Q:=λv s'=>v= .ref h.objs.size/\s'=⟨h.push (zB x),g,d,t+1,os⟩) (E:=λoo oo=>False)
  (Fd F.ks_slot_super_ga (hT _) F.ks_entry_super_ga (u7 u a3 hC hl X hx a1 hsub hf a2 hn (qK _ rfl rfl rfl)) (F.ks_gaArgs_super _ _)) (λv s' hv=>?_) λoo oo z=>z.elim
 (refine qc hv λa0 Z=>?_;clear hv;subst a0;subst Z)
 exact yB (yB hq)
theorem Uf {sub:List yr}
  (F:BQ "Exception" newId "Exception.__init__" bm)
  (hx:h.get? x=some ox) (I:ox.cls= .ref C) (hC:h.get? C=some (BM nm q C N bs bm hdct sn sub ab col dd k0 k1 k2 k3 k5 newId))
  (hq:Q () ⟨h,g,d,t,os⟩):
  yP M A (checkBoundCall "Exception.__init__" ⟨.ref x::rest,[]⟩) Q E ⟨h,g,d,t,os⟩:=by
 have u:=F.noStar
 unfold checkBoundCall
 simp -iota only [F.initKind,F.initRow]
 repeat (first|(with_reducible refine Dk hx ?_;rw [I])|with_reducible refine Dk hC ?_|wp_step)
 refine wpAny_onRaise ?_
 rw [show ∀(a b:String) (n:Nat),Bind.check ⟨.positional,"*","Exception",.self,[⟨"args",.varPos,false⟩]⟩ a b n (Fe (λx=>x.fst) ({pos:=Value.ref x::rest}:Args).kw)=pure () from
  λa b n=>check_star_args _ _ _ _ _ _]
 exact yB hq
theorem Yk {sub:List yr}
  (F:BQ "Exception" newId "Exception.__init__" bm)
  (hb:h.get? b=some (zB x)) (hx:h.get? x=some {cls:= .ref C,data:= .fields #[tu,.none,.none,.none,.bool false,.none]}) (hC:h.get? C=some (BM nm q C N bs bm hdct sn sub ab col dd k0 k1 k2 k3 k5 newId))
  (hq:Q .none ⟨(h.push {cls:= .type "tuple",data:= .seq #[v]}).update x (Obj.mapFields (·.setIfInBounds 0 (.ref h.objs.size))),g,d,t,os⟩):
  yP (Wf prog w) A (call (.ref b) [v]) Q E ⟨h,g,d,t,os⟩:=by
 refine Dv (codeAny_of_tree ?_)
 show yP _ A.in1 (callAny (.ref b) ⟨[v],[]⟩) _ _ _
 unfold callAny
 refine yo (HM hb ?_)
 simp -iota only [show (Value.type "method-wrapper"==Value.type "method" ||Value.type "method-wrapper"==Value.type "builtin_function_or_method" ||Value.type "method-wrapper"==Value.type "method-wrapper")=true by decide,if_true]
 refine KFB.if_so (by decide) ?_
 refine yo (Uf F hx rfl hC ?_)
 refine yo (yB (yB ?_))
 refine qa (Code.quiet_builtin _ (by decide+kernel)) (Fs F.initEntry ?_)
 unfold Builtin.«BaseException.__init__»
 dsimp only
 rw [if_neg (by simp)]
 unfold newTuple Builtin.BaseException.bexcPut
 have u:=Heap.get?_push_of_some (h:=h) {cls:= .type "tuple",data:= .seq [v].toArray} hx
 refine yo (BB (yo (yo (Bn u rfl (x:=tu) rfl (yo (HJ u rfl (by show 0<6;decide) ?_))))) (by show 1<=Be;rw [Wp];decide))
 cases tu<;>first|exact yB (yB hq)|exact HH (yB hq)
end
section
variable {g:G} {f:Fx} {n:Nat} {mg mb:Str->Option yr} {σ:St} {s:yF} {E:QE} {A:y9} {Q:QV}
theorem Rep.keeps (h:Rep g f σ s) (k: ∀b o,s.heap.get? b=some o->h'.get? b=some o):Rep g f σ {s with heap:=h'}:=by
 refine xF h λm u N a b c d=>?_
 exact xi m u N a b (c.keeps k) d
theorem qb.wrap (gk:GOk g mg mb) (ok:FOk g f) {H':yr->List (yu × O)} {sub:List yr}
  (F:BQ "Exception" newId "Exception.__init__" bm) (hC:g.K.lookup C=some (BM nm q C N bs bm hdct sn sub ab col dd k0 k1 k2 k3 k5 newId)) (hb:(b,.raw (zB x))∈σ.H) (u: ∀t,HU x (.exc0 C tu) (.exc0 C t) σ.H (H' t))
  (h: ∀t,Q .none {σ with H:=H' t}):qb g f n (.ref b) [y] [] Q E σ:=Op.mk λa4 a vs kw ha hv hw=>by
 obtain rfl:=ha;obtain rfl:=hw
 (refine qk hv λv oo a1 h1 e=>?_;clear hv;subst a1)
 obtain rfl:=e
 refine jZ (λA s hA hs=>?_) λA s hA hs=>?_
 ·(refine qf (hs.mem hb) λoo a0 r=>?_;subst a0)
  have r:=r _ (.head _)
  exact qj (.machine) (.inr (.inl rfl)) ((Looks.ld (part:=none) r).andThen .now)
 ·(refine qf (hs.mem hb) λoo Z r=>?_;subst Z)
  have r:=r _ (.head _)
  have X:=hs.kin gk ok
  have a2:=hs.new (o:={cls:= .type "tuple",data:= .seq #[v]})
  obtain ⟨hh,gg,d,t,os⟩:=s
  (refine zk (a2.upd (u (.ref hh.objs.size))) λoo J r3 r4=>?_;subst J)
  have r2:=r3 _ (.head _)
  (refine qf (hs.mem (u (.ref 0)).mem) λoo I r5=>?_;subst I)
  have r5:=r5 _ (.head _)
  dsimp only at r2 r4 r5
  refine Yk F r r5 (X _ _ hC) (qe _ _ (.none) ?_ (h (.ref hh.objs.size)))
  refine r4 _ _ rfl λprot a3 L=>L.upd (λb x hb e=>(Heap.get?_update_other _ _ (Ne.symm hb)).trans e) ?_
  rw [Heap.get?_update_self _ r2 rfl]
  rfl
end
section
variable {g:G} {f:Fx} {n:Nat} {mg mb:Str->Option yr} {σ:St} {s:yF} {E:QE} {A:y9} {Q:QV}
noncomputable def supS (N:Nm) (j p0 p1 ap pj pc ps:Nat):Stmt:= .Expr (.Call (.Attribute (.Call (.Name "super" (P p0)) [] [] (P p1)) "__init__" (P ap)) [.Name (N.nm (N.slot j)) (P pj)] [] (P pc)) (P ps)
structure Q4 (g:G) (fd:Fa) (slots:List Nat) (C D cc cda:yu) (i1:Nat):Prop where
 hks:fd.scope.names.lookup ("super":Str)=some .globalImplicit
 hkc:fd.scope.names.lookup ("__class__":Str)=some .free
 hp: ∃ar,(fd.params.posonlyargs++fd.params.args).head? =some ar/\∃k,slots[0]? =some k/\g.nm k=ar.arg
 hco:fd.code= .ref cda
 hcode: ∃vs a b c file tf,g.K.lookup cda=some ⟨a,b,.fields vs,c⟩/\vs[2]? =some (.str file tf)/\((g.prog.main.file:Str)==file)=true
 htop:(g.prog.main.scope.names.lookup ("super":Str)).isSome=false
 hclo:fd.closure.lookup ("__class__":Str)=some cc
 hcell: ∃a b c,g.K.lookup cc=some ⟨a,b,.cell (some (.ref D)),c⟩
 hsub:mroIn g.K C (.ref D)=some true
 hexc:subIn g.K (.ref C) (.type "Exception")=some true
 sup:i1<g.tab.length/\g.nm i1=("super":Str)/\g.globs.lookup i1=some (.type "super")
 opq:nsIn g.K WV "thirdparty.any"=some none
 clsD: ∃cd,clsIn g.K D=some cd
 along: ∃cd,clsIn g.K C=some cd/\alongIn g.K "__init__" ((cd.mro.dropWhile (· != .ref D)).drop 1)=some (some (.builtin "Exception.__init__"))
noncomputable abbrev ul (p0 p1:Nat) (env:Env):Sem Bool:=do return (<- importBound (.Call (.Name "super" (P p0)) [] [] (P p1)) env).getD true
def uq (a : Str) (env : Env) (p0 p1 ap pj pc : Nat) : Prop :=
  eval (.Call (.Attribute (.Call (.Name "super" (P p0)) [] [] (P p1)) "__init__" (P ap)) [.Name a (P pj)] [] (P pc)) env = (do
      let ov <- attributeBase (.Call (.Name "super" (P p0)) [] [] (P p1)) "__init__" env (eval (.Call (.Name "super" (P p0)) [] [] (P p1)) env)
      standAt (P ap).atName
      let (f, first) <- holding [ov] (getMethod ov "__init__" (ul p0 p1 env))
      DN (P pc) f first (Dc (P pc) (W4 [.Name a (P pj)] env)) [])
theorem Uh {K:B0} (e:clsIn K C=some cd) (X:K.In h): ∃o,h.get? C=some o/\o.data= .cls cd:=by
 unfold clsIn at e
 cases q:K.lookup C with
 |none=>rw [q] at e;cases e
 |some o=>
  obtain ⟨c,d,dt,sl⟩:=o
  rw [q] at e
  cases dt<;>first|cases e;exact ⟨_,X _ _ q,rfl⟩|cases e
theorem uX (gk:GOk g mg mb) (ok:FOk g f)
    {sub:List yr} {Q:V->St->Prop} {H':yr->List (yu × O)}
  (FB:BQ "Exception" newId "Exception.__init__" bm) (hC:g.K.lookup C=some (BM nm q C N bs bm hdct sn sub ab col dd k0 k1 k2 k3 k5 newId))
  (ho:g.K.lookup fa=some ⟨oc,od,.func fd,osl⟩) (J:f.env=Hb fd f.L fa) (am:fnC g fd f.slots []=true)
  (S:Q4 g fd f.slots C D cc cda i1) (h1:lk σ.loc 0=some (.ref x)) (hj:(f.nmOf g).isLoc j=true) (h2:lk σ.loc j=some y) (hm:(x,.exc0 C tu)∈σ.H) (u: ∀t,HU x (.exc0 C tu) (.exc0 C t) σ.H (H' t))
  (he: ∀(a:Str) (env:Env),uq a env p0 p1 ap pj pc)
  (hA:AOk f n A) (hs:Rep g f σ s) (h: ∀b t,Q .none {σ with H:=(b,.raw (zB x))::H' t}):
  PySem.wpAt g.M A (.func body f.env) (eval (.Call (.Attribute (.Call (.Name "super" (P p0)) [] [] (P p1)) "__init__" (P ap)) [.Name ((f.nmOf g).nm ((f.nmOf g).slot j)) (P pj)] [] (P pc)) f.env)
   (λv s'=>∃x σ',VR g x v/\Rep g f σ' s'/\Q x σ') (EP g f E) s:=by
 have Cc:=XQ am
 have X:=hs.kin gk ok
 have ai:f.env.scope=fd.scope:=by rw [J];rfl
 (refine qf (hs.mem hm) λoo af r=>?_;subst af)
 have hx:=r _ (.head _)
 dsimp only at hx
 (refine qf (S.hp) λar al ae=>?_;refine qf ae λk a4 a3=>?_)
 (refine zc (S.hcode) λvs q1 q2 ac=>?_;refine kT ac λq3 file tf aq ao an=>?_)
 refine zc (S.hcell) λz1 z2 z3 hcell=>?_
 refine qZ (S.sup) λaz a2 ag=>?_
 refine qA (S.clsD) λax hD=>?_
 refine qf (S.along) λay av au=>?_
 have I: ∀z,f.env.kindOf z=fd.scope.names.lookup z:=λz=>by rw [<- ai];rfl
 have a0:f.env.kindOf ar.arg=some .local:=by rw [I,<- a3];exact Cc.loc _ (yC a4)
 have Z: ∀{s':yF},Rep g f σ s'->∃oD,s'.heap.get? D=some oD/\oD.data= .cls ax:=λhs'=>by
  have X':=hs'.kin gk ok
  exact Uh hD X'
 refine ks_wpAt_MethodCall (pl:=ul p0 p1 f.env) ?_ (he _ _)
 refine ks_wpAt_super_base (f:=fa) (cc:=cda) (ar:=ar) (fd:=fd) (vs:=vs) (file:=file) (tf:=tf) (by rw [I];exact S.hks) (by rw [I];exact S.hkc) (by decide) (by rw [J];rfl) (X _ _ ho) rfl al (by rw [J];exact S.hco) (X _ _ aq) rfl ao an S.htop ?_
 refine Qt gk ok hs a2 (by rw [I];exact S.hks) ag (qa rfl ?_)
 refine wpAny_loadName_free ok.kind (by rw [I];exact S.hkc) (by rw [J];exact S.hclo) (qj _ (X _ _ hcell) rfl) ?_
 refine yK (ko (E:=E) ok a4 a3 a0 h1 (Q:=λz σ'=>z= .ref x/\σ=σ') (qa rfl rfl) A s hA hs) ?_ λoo oo e=>e
 rintro v s' ⟨_,σ₂,hv,hs',rfl,hσ⟩
 subst hσ
 obtain rfl:=hv
 refine qf (Z hs') λoD a6 a5=>?_
 (refine qf (hs'.mem hm) λoo aa r'=>?_;subst aa)
 have F:=r' _ (.head _)
 dsimp only at F
 have X':=hs'.kin gk ok
 refine ks_wpAny_isType_cls a6 a5 (qa rfl ?_)
 obtain ⟨hh,gg,d,tk,os⟩:=s'
 refine ks_wpAny_call_super a6 a5 F rfl (λc e=>by cases e) (looks_mroIn X' S.hsub) λh' e k'=>?_
 have ak:=hs'.keeps k'
 have X2:g.K.In h':=λa o e=>k' _ _ (X' a o e)
 have ah:x≠C:=by
  rintro rfl
  have:=X' _ _ hC
  dsimp only at this F
  rw [F] at this
  cases this
 refine YL (C:=C) e (looks_opaque X2 S.opq) (l₀:=ay.mro) (λA Q E s k q=>yo ((HD X2 av) A _ E s k (yB q))) rfl X2 (k' _ _ F) rfl (HF X2 S.hexc) au ah (by decide) ?_
 have aj:=ak.push (o:= .raw (zB x)) (obj:=zB x) rfl
 have hN:(f.nmOf g).isLoc j=true:=hj
 have w:W g f n (VR g) (DN (P pc) (.ref h'.objs.size) [] (Dc (P pc) (W4 (zA (f.nmOf g) [Mine.Internal.E.loc j pj]) f.env)) (B2 (P pc) (W8 (xV (f.nmOf g) []) f.env))) Q E {σ with H:=(h'.objs.size,.raw (zB x))::σ.H}:=by
  have ha:Xx (f.nmOf g) [Mine.Internal.E.loc j pj]=true:=by
   show (true && (f.nmOf g).isLoc j && true)=true
   rw [hN];rfl
  refine jQ (fst:=[]) (by rw [(zO ha).1,js.1];rfl) ?_
  refine xG (JQ gk ok ha rfl (.ref h'.objs.size) (Q:=λys a1 σ'=>ys=[y]/\a1=[]/\σ'={σ with H:=(h'.objs.size,.raw (zB x))::σ.H}) ?_) (λys σ h aw=>?_) λoo oo e=>e
  ·show match lk σ.loc j with|some x=>_|none=>False
   rw [h2]
   exact qy rfl rfl rfl
  ·(refine ZF h λus a1 k1 k2 a9 a8 a7=>?_;clear h;subst a9;subst a8;subst a7)
   refine (qb.wrap (σ:={σ with H:=(h'.objs.size,.raw (zB x))::σ.H}) gk ok (H':=λt=>(h'.objs.size,.raw (zB x))::H' t) FB hC (.head _) (λt=> .tail (u t)) (λt=>h _ t)).h aw _ _ _ .ref k1 k2
 exact w A _ hA (aj.toks _)
end
section
variable {g:G} {f:Fx} {n:Nat} {mg mb:Str->Option yr} {σ:St} {s:yF} {E:QE} {A:y9} {Q:QV}
theorem qs.ofSup (gk:GOk g mg mb) {a3 ps:List (Nat × V)} {Q:V->List (yu × O)->Prop}
    {sub:List yr}
  (FB:BQ "Exception" newId "Exception.__init__" bm) (hC:g.K.lookup C=some (BM nm q C N bs bm hdct sn sub ab col dd k0 k1 k2 k3 k5 newId))
  (ho:g.K.lookup fa=some ⟨oc,od,.func fd,osl⟩) (ak:codeIn g.K fd.code fd.qualname=true) (hc:fnC g fd slots []=true) (hm:xP ⟨g.tab,fd.scope.names,slots⟩ lss=true)
  (a2:fd.body= .stmts (supS ⟨g.tab,fd.scope.names,slots⟩ j p0 p1 ap pj pc pq::xm ⟨g.tab,fd.scope.names,slots⟩ lss))
  (S:Q4 g fd slots C D cc cda i1) (hj:Nm.isLoc ⟨g.tab,fd.scope.names,slots⟩ j=true) (he: ∀(a:Str) (env:Env),uq a env p0 p1 ap pj pc)
  (hk:k<900) (hb: ∀vs kw,VRs g xs vs->KWR g a3 kw->∃u,xq g.K 9 (Fb fd ⟨vs,kw⟩)=some u/\KWR g ps u)
  (ac:x8 (ps.map (·.1))=true) (ae:(ps.all λp=>slots.contains p.1)=true) (loc:List (Option V)) (a6:loc=slots.map (ps.lookup ·))
  (h1:lk loc 0=some (.ref x)) (h2:lk loc j=some y)
  (hw: ∀f b t,FOk g f->f.hd=hd->wSs g f (k+3) lss (U0 Q) (λx σ'=>∃H',Sub H' σ'.H/\E' x H') ⟨loc,(b,.raw (zB x))::(x,.exc0 C t)::H⟩):
  qs g k hd (.ref fa) xs a3 ((x,.exc0 C tu)::H) Q E':=by
 subst a6
 have ag:=zu ac
 have a5: ∀p∈ps,p.1∈slots:=λp hp=>WK.mp (yY.mp ae p hp)
 intro prot I frames keep A s vs kw F hh hG hv ah
 have Cc:=XQ hc
 have a4:g.base.StaysIn s.heap:=by
  refine xW hG λoo oo oo oo c oo=>?_
  exact λb o e=>c.stays b o (F.base b o e)
 have KX:g.K.In s.heap:=λa o e=>a4 a o (gk.k a o e)
 refine qf (hb vs kw hv ah) λu e1 X=>?_
 have al:(u.map (·.1)).Nodup:=by
  rw [X.keys]
  have:=kD gk (l:=ps.map (·.1)) (λi hi=>by
   (refine qf (yD.mp hi) λp hp aa=>?_;subst aa)
   exact X.lts p hp) ag
  rwa [DO] at this
 have J:A.depth<W1:=WJ F.depth (Bx hk (by decide))
 have a0: ∀z∈u,fd.scope.names.lookup z.1=some .local:=λz hz=>by
  have:z.1∈u.map (·.1):=yT hz
  rw [X.keys] at this
  refine qf (yD.mp this) λp hp e=>?_
  rw [<- e]
  exact Cc.loc _ (a5 p hp)
 refine ks_codeAny_call_defAt J (KX _ _ ho) rfl (gk.nolimit.keeps a4) (codeRec_of KX ak) a2 (λM A E Q hq=>xp KX hq 9 _ e1) (Cc.noc rfl) a0 (λh₀ af aj=>?_) Cc.co Cc.gen Cc.kind
 have e3:(Hb fd s.heap.objs.size fa).frame=some s.heap.objs.size:=rfl
 let f:Fx:=⟨Hb fd s.heap.objs.size fa,s.heap.objs.size,slots,[],prot,Hb fd s.heap.objs.size fa::frames,I,hd,keep⟩
 have ok:FOk g f:=by
  refine ⟨Cc.kind,rfl,Cc.gl,Cc.bi,Cc.nd,Cc.lt,(λi a h=>nomatch h),F.base,(by have:=F.hdc;rw [hh] at this;exact this),(qU _ frames rfl rfl),λe a1=>?_⟩
  rcases yy.mp a1 with rfl|a1
  ·exact qa (by show fd.scope.kind≠_;rw [Cc.kind];decide) (qj _ e3 (.inl rfl))
  ·(refine qc (F.fun_ e a1) λq1 a9=>?_;refine qf a9 λb q2 q3=>?_)
   exact qa q1 (qj b q2 (.inr q3))
 have hA:AOk f (k+3) (A.deeper (Hb fd s.heap.objs.size fa)):=⟨Around.frames_deeper F.frames,yU F.units 3,by show A.depth+1<=k+3;have:=F.depth;exact (qq [.nl VA VB] (.nl (.a VA KB) (.a VB KD)) rfl this),hh,F.guards⟩
 have hN:f.nmOf g=⟨g.tab,fd.scope.names,slots⟩:=rfl
 have hR:Rep g f ⟨slots.map (ps.lookup ·),(x,.exc0 C tu)::H⟩ {s with heap:=h₀,toks:=s.toks+u.length}:=
  hG.laid (f:=f) (l:=[]) (val:=λoo=>none) ⟨(jH _ _ rfl),af,aj,yM _⟩ (λp hp=>(yI hp).elim) WW (λp hp=>(yI hp).elim) rfl rfl rfl
   (kW gk X λam v ai i hi e=>xr (by rw [Hh];exact wu al) (Hi.mpr ai))
 refine ks_wpAt_mono (ks_wpAt_execs_cons (Q:=λfl s'=>∃x H',VR g x (match fl with| .ret v=>v|_=> .none)/\xE g prot I H' s'/\Q x H') (E:=λe s'=>yP g.M (A.deeper (Hb fd s.heap.objs.size fa)) (FE (Hb fd s.heap.objs.size fa) e) (λoo Z=>∃x H',e= .ref x.addr/\jG g prot I keep H' Z x.addr x.cls/\E' x H') (λe' Z=>∃x H',e'= .ref x.addr/\jG g prot I keep H' Z x.addr x.cls/\E' x H') s') ?_) (λfl s' h=>h) λe s' h=>h
 refine ks_wpAt_Expr_any (ks_wpAt_mono (uX (E:=λoo oo=>False) (Q:=λy σ'=>∃b t,σ'=⟨slots.map (ps.lookup ·),(b,.raw (zB x))::(x,.exc0 C t)::H⟩) gk ok FB hC ho rfl hc S h1 hj h2 (.head _) (λt=> .head) he hA hR λb t=>(jH b t rfl)) (λv s' h=>?_) λe s' h=>?_) (show Bm f.env=false by unfold Bm;rw [ok.kind];rfl) rfl
 ·(refine qk h λoo oo oo hs' a7=>?_;refine XM a7 λb t a8=>?_;clear h;subst a8)
  exact wpAt_of_wpAny (ZY gk ok hm hs' hA (hw f b t ok rfl))
 ·refine qk h λoo oo oo oo h=>?_
  exact h.elim
end
noncomputable section
noncomputable abbrev qE (N:Nm) (ns:List (Nat × WD)):Scope:={kind:= .function,names:=ns.map λp=>(N.nm p.1,p.2),isGenerator:=false,isCoroutine:=false,more:=[]}
noncomputable def YP (N:Nm) (ns:List (Nat × WD)):List (Str × WD):=(ns.map λp=>(N.nm p.1,p.2)).map λ(n,k)=>if (k== .free && N.names.lookup n==some .cell) then (n,.cell) else (n,k)
noncomputable def Nm.comp (N:Nm) (ns:List (Nat × WD)) (slots:List Nat):Nm:=⟨N.tab,YP N ns,slots⟩
noncomputable def zZ (φ:Nat->Option yu):List (Nat × WD)->List (Nat × yu)->List (Nat × yu)
 |[],acc=>acc
 |(i,k)::r,acc=>if k== .free then zZ φ r ((i,(φ i).getD 0)::acc) else zZ φ r acc
theorem Xn:zZ φ ((i,k)::r) acc=if k== .free then zZ φ r ((i,(φ i).getD 0)::acc) else zZ φ r acc:=rfl
noncomputable def xg (φ:Nat->Option yu) (ns:List (Nat × WD)):Bool:=ns.all λp=>p.2 != .free||(φ p.1).isSome
noncomputable def XS (e:Expr):Bool:=kd e !=4
theorem k7 (h:XS e=true) (env:Env) (x:yr):foldedSetIterable e env x=pure x:=by
 cases e<;>first|rfl|cases h
section
variable {g:G} {f:Fx} {n:Nat} {mg mb:Str->Option yr} {σ:St} {s:yF} {E:QE} {A:y9} {Q:QV}
theorem XG (hφ: ∀i a,φ i=some a->env.cells.lookup (g.nm i)=some a) (ns:List (Nat × WD)): ∀(acc:List (Nat × yu)),xg φ ns=true->
  (forIn (ns.map λp=>(g.nm p.1,p.2)) (acc.map λp=>(g.nm p.1,p.2)) (λ(x:Str × WD) (cs:List (Str × yu))=>(match x with
   |(name,kind)=>if kind== .free then do let a <- cellOf env name;pure (ForInStep.yield ((name,a)::cs)) else pure (ForInStep.yield cs):Sem (ForInStep (List (Str × yu))))))=pure ((zZ φ ns acc).map λp=>(g.nm p.1,p.2)):=by
 induction ns with
 |nil=>
  exact @λacc oo=>rfl
 |cons hd r ih=>
  obtain ⟨i,k⟩:=hd
  exact @λacc h=>by
   refine qc (qh (show ((k != .free||(φ i).isSome) && xg φ r)=true from h)) λh1 h2=>?_
   rw [yH,Hz]
   dsimp only
   rw [Xn]
   cases hk:(k==NameKind.free) with
   |false=>exact ih acc h2
   |true=>
    have hk':(k !=NameKind.free)=false:=by simp [bne,hk]
    rw [hk',Bool.false_or] at h1
    refine qA (DR.mp h1) λa ha=>?_
    have hc:cellOf env (g.nm i)=pure a:=by unfold cellOf;rw [hφ i a ha]
    rw [if_pos rfl,if_pos rfl,hc,ha]
    exact ih ((i,a)::acc) h2
theorem zM (ok:FOk g f) (h:xg (f.cells.lookup ·) ns=true):closureFor (qE (f.nmOf g) ns) f.env=pure ((zZ (f.cells.lookup ·) ns []).map λp=>(g.nm p.1,p.2)):=by
 have:=XG (g:=g) (env:=f.env) (φ:=(f.cells.lookup ·)) ok.cells ns [] h
 unfold closureFor
 rw [show ((qE (f.nmOf g) ns).names)=ns.map (λp=>(g.nm p.1,p.2)) from rfl]
 exact (congrArg (λt:Sem (List (Str × yu))=>t>>=λs=>pure s) this).trans rfl
theorem Q9 (gk:GOk g mg mb) (hi:i<g.tab.length) {l:List (Nat × yu)}:(∀p∈l,p.1<g.tab.length)->l.lookup i=some a->(l.map λp=>(g.nm p.1,p.2)).lookup (g.nm i)=some a:=by
 induction l with
 |nil=>
  exact @λoo h=>by cases h
 |cons hd r ih=>
  obtain ⟨j,b⟩:=hd
  exact @λhl h=>by
   rw [yH]
   rcases wH h with ⟨rfl,rfl⟩|⟨hn,h⟩
   ·exact Do
   ·rw [Bf,beq_false_of_ne λe=>hn (G.nm_inj gk hi (hl (j,b) (.head _)) e)]
    exact ih (λp hp=>hl p (.tail _ hp)) h
theorem Ut {P:Nat->Prop}: ∀{u:List (Nat × yu)},(∀p∈ns,P p.1)->(∀p∈u,P p.1)->∀p∈zZ φ ns u,P p.1:=by
 induction ns with
 |nil=>
  exact @λu oo h=>h
 |cons hd r ih=>
  obtain ⟨i,k⟩:=hd
  exact @λu h ha=>by
   rw [Xn]
   by_cases hk:(k==NameKind.free)=true
   ·rw [if_pos hk];exact ih (λp hp=>h p (.tail _ hp)) λp hp=>(yy.mp hp).elim (λe=>e ▸ h (i,k) (.head _)) (ha p)
   ·rw [if_neg hk];exact ih (λp hp=>h p (.tail _ hp)) ha
theorem Rep.hideL (h:Rep g f ⟨loc,(D,.list xs)::H⟩ s): ∃p,(∀b o,f.prot.get? b=some o->p.get? b=some o)/\Rep g (f.at p) ⟨loc,H⟩ s/\
  ∀σ' s',Rep g (f.at p) σ' s'->Rep g f ⟨σ'.loc,(D,.list xs)::σ'.H⟩ s':=by
 refine ja h λm C N a b c d z=>?_
 (refine qk b λN₁ N₂ I b1 b2=>?_;clear b;subst I)
 (refine qB b1 λvs k hv F=>?_;clear b1;subst F)
 have nd:=c.nodup
 have hD:D ∉ (C++N₂).map (·.1):=λhm=>by
  rw [yE,Wm] at nd
  rw [yE] at hm
  refine Or.elim (yR.mp hm) (λhm=>?_) λhm=>?_
  ·exact nd.2.2 _ hm _ (.head _) rfl
  ·have:=nd.2.1
   rw [B4,yH,Wd] at this
   exact this.1 hm
 have c2:Lay f.prot (C++N₂) s.heap:=c.sub ((Sub.refl C).append (.drop (Sub.refl _)))
 refine qc (c2.hide) λfr c3=>?_
 have hg:s.heap.get? D=some (Bi vs.toArray k):=c.there (D,_) (yx _ (.head _))
 have fD:f.prot.get? D=none:=c.fresh (D,_) (yx _ (.head _))
 have lD:WV<D:=c.low (D,_) (yx _ (.head _))
 have hp:=BL (h:=s.heap) (l:=(C++N₂).map (·.1)) hg hD
 refine qK _ fr (ji m C N₂ a b2 c3 d z) (λσ' s' h'=>?_)
 refine ja h' λm' u N' a' b' c' d' z'=>?_
 refine ji m' u ((D,Bi vs.toArray k)::N') a' (.cons (N₁:=[_]) (qU vs k hv rfl) b') ?_ d' z'
 have cw:=c'.widen fr c.big
 have J:D ∉ (u++N').map (·.1):=λhm=>by
  refine qf (yD.mp hm) λq hq e=>?_
  have:=c'.fresh q hq
  rw [e,show (f.at _).prot=_ from rfl,hp] at this;cases this
 have big:=c.big
 refine Lay.perm (all:=(D,Bi vs.toArray k)::(u++N')) ⟨?_,λq hq=>?_,λq hq=>?_,cw.stays,big,λq hq=>?_⟩ Bd.symm
 ·rw [yH,Wd];exact qa J cw.nodup
 ·rcases yy.mp hq with rfl|hq
  ·exact c'.stays _ _ hp
  ·exact cw.there q hq
 ·rcases yy.mp hq with rfl|hq
  ·exact fD
  ·exact cw.fresh q hq
 ·rcases yy.mp hq with rfl|hq
  ·exact lD
  ·exact cw.low q hq
end
end
section
variable {g:G} {f:Fx} {n:Nat} {mg mb:Str->Option yr} {σ:St} {s:yF} {E:QE} {A:y9} {Q:QV}
noncomputable abbrev Fx.comp (f:Fx) (g:G) (ns:List (Nat × WD)) (slots:List Nat) (C:yu) (m:Str->Option yr) (p:W0):Fx:=
 {env:=compEnvC (qE (f.nmOf g) ns) ((zZ (f.cells.lookup ·) ns []).map λp=>(g.nm p.1,p.2)) C f.env,L:=C,slots:=slots,cells:=zZ (f.cells.lookup ·) ns [],prot:=p,frames:=f.frames,outs:=(f.L,m)::f.outs,hd:=f.hd,keep:=f.keep}
theorem FOk.comp (gk:GOk g mg mb) (ok:FOk g f) {slots:List Nat} (sub: ∀b o,f.prot.get? b=some o->p.get? b=some o)
  (h1:slots.Nodup) (h2: ∀k∈slots,k<g.tab.length) (h3: ∀q∈ns,q.1<g.tab.length):FOk g (f.comp g ns slots C m p):=by
 have u:=ok.at sub
 refine ⟨rfl,rfl,ok.globals,ok.builtins,h1,h2,λi a h=>?_,u.base,u.hd,ok.frames,λe he=>?_⟩
 ·have hl: ∀q∈zZ (f.cells.lookup ·) ns [],q.1<g.tab.length:=Ut (P:=(· <g.tab.length)) h3 λoo h=>(yI h).elim
  have hi:i<g.tab.length:=hl _ (mem_of_lookup h)
  exact Q9 gk hi hl h
 ·(refine qc (ok.fun_ e he) λq1 F=>?_;refine qf F λb q2 q3=>?_)
  exact qa q1 (qj b q2 (.inr (q3.elim (λe=>e ▸ .head _) (.tail _))))
theorem JH (ok:FOk g f):(f.comp g ns slots C m p).nmOf g=(f.nmOf g).comp ns slots:=by
 show Nm.mk g.tab (relabel (qE (f.nmOf g) ns) f.env).names slots=_
 unfold relabel Nm.comp YP
 have hk:(f.env.scope.kind==ScopeKind.function)=true:=by rw [ok.kind];decide
 simp only [hk,Bool.and_true]
 rfl
theorem Rep.compLeave {ns:List (Nat × WD)} (h:Rep g (f.comp g ns slots C m f.prot) ⟨loc',H⟩ s) (hl:jc g f.slots loc m):
  ∃p,(∀b o,f.prot.get? b=some o->p.get? b=some o)/\Rep g (f.at p) ⟨loc,H⟩ s/\f.prot.get? C=none/\∃o m',p.get? C=some o/\Zh o m':=by
 refine ja h λm₀ Z N a b c d z=>?_
 (refine qk a λJ u I F a'=>?_;clear a;obtain ⟨C',oC⟩:=J;subst I;obtain ⟨rfl,X⟩:=F)
 have c2:Lay f.prot (u++N) s.heap:=c.sub (.drop (Sub.refl _))
 refine qc (c2.hide) λfr c3=>?_
 have nd:=c.nodup
 rw [B4,yH,Wd] at nd
 exact X0 _ fr (ji m u N a' b c3 hl z) (c.fresh _ (.head _)) (qU oC m₀ (BL _ (c.there _ (.head _)) nd.1) X)
theorem Rep.butC (sub: ∀b o,f.prot.get? b=some o->p.get? b=some o) (big: ∃b o,WV<=b/\f.prot.get? b=some o) (h:Rep g (f.at p) σ s) (hC:p.get? C=some o) (fC:f.prot.get? C=none) (hs:Heap.SameBut C s.heap h'):
  Rep g f σ {s with heap:=h'}:=by
 refine ja h λm u N a b c d z=>?_
 refine ji m u N a b ⟨c.nodup,λq hq=>(hs.2 _ λe=>?_).trans (c.there q hq),λq hq=>jY sub _ (c.fresh q hq),λb x e=>(hs.2 _ λq=>?_).trans (c.stays b x (sub b x e)),big,c.low⟩ d z
 ·have:=c.fresh q hq
  rw [e,show (f.at p).prot=p from rfl,hC] at this;cases this
 ·rw [q,fC] at e;cases e
end
section
variable {g:G} {f:Fx} {n:Nat} {mg mb:Str->Option yr} {σ:St} {s:yF} {E:QE} {A:y9} {Q:QV}
theorem kh {Q:yr->yF->Prop} {E:yr->yF->Prop} (h:Rep g f ⟨loc,(D,.list ys)::H⟩ s) (hv:VR g y v) (hz:ys.length<=16777216)
  (hq: ∀s',Rep g f ⟨loc,(D,.list (ys++[y]))::H⟩ s'->Q .none s'):yP g.M A (call (.builtin "list.append") [.ref D,v]) Q E s:=by
 have u:HU D (.list ys) (.list (ys++[y])) ((D,.list ys)::H) ((D,.list (ys++[y]))::H):= .head
 refine qB (h.list u.mem) λus k hr e=>?_
 refine append_at (hsz:=by rw [yJ,hr.length,Wp];exact hz) e λh' C ho=>?_
 rw [D0] at ho
 exact hq _ (h.upd1 u list1 (qU _ _ (hr.append (.cons hv .nil)) rfl) C ho)
def WkH (P:List (yu × O)->Prop) (H:List (yu × O)):Prop:=∃H₁ H₂,H.Perm H₁/\Sub H₂ H₁/\P H₂
theorem WkH.of {P:List (yu × O)->Prop} (h:P H):WkH P H:=(qe H H (.refl _) (.refl _) h)
theorem wR (I:Nat->yF->Prop)
  (turn: ∀n s,I n s->yP g.M A (DP it) (λr s₁=>match r with
   |none=>R (.ok .next) s₁
   |some v=>yP g.M A (Bz target it v) (λoo s₂=>yP g.M A (Bl target env v>>=λoo=>eval elt env) (λx s₃=>yP g.M A (call (.builtin "list.append") [acc,x]) (λoo s₄=>∃m,m<n/\I m s₄) (λoo oo=>False) s₃) (λoo oo=>False) s₂) (λoo oo=>False) s₁) (λoo oo=>False) s)
  (n:Nat) (h:I n s):W9 g.M A (.compLoop (.ListComp elt [⟨target,iter,[],0⟩] scope pos) 0 it acc env) R s:=by
 refine codeAny_loop rfl I (λn s hI=>?_) n h
 show yP _ A ((compTurn (.ListComp elt [⟨target,iter,[],0⟩] scope pos) 0 it acc env).onRaise (λx=>do BE x env;BW x)) _ _ s
 refine wpAny_noted ?_
 rw [compTurn_list1]
 have no: ∀{P:yr->yF->Prop},∀e s',False->P e s':=λoo oo h=>h.elim
 refine yo (Bh (yo (yK (turn n s hI) (λr s₁ h₁=>?_) no)))
 cases r with
 |none=>exact yB h₁
 |some v=>
  refine yo (yK h₁ (λoo s₂ h₂=>?_) no)
  rw [show (Bl target env v>>=λoo=>(eval elt env>>=λx=>call (.builtin "list.append") [acc,x]>>=λoo=>pure ())>>=λoo=>again (.compLoop (.ListComp elt [⟨target,iter,[],0⟩] scope pos) 0 it acc env):Sem Fin)=
   ((Bl target env v>>=λoo=>eval elt env)>>=λx=>call (.builtin "list.append") [acc,x]>>=λoo=>again (.compLoop (.ListComp elt [⟨target,iter,[],0⟩] scope pos) 0 it acc env)) by simp only [bind_assoc,pure_bind]]
  exact yo (yK h₂ (λx s₃ h₃=>yo (yK h₃ (λoo s₄ h₄=>yB (qa rfl h₄)) no)) no)
theorem wc (gk:GOk g mg mb) (ok:FOk g f) {el:EX} (u:FOk g (f.comp g ns slots C m p)) (F:el.chk ((f.nmOf g).comp ns slots)=true) (ht:tg.chk ((f.nmOf g).comp ns slots)=true)
   (hv:VR g x v) {P:QV} (h:wTg g (f.comp g ns slots C m p) n tg x (λσ=>el.wp g (f.comp g ns slots C m p) n P E σ) E σ):
  W g (f.comp g ns slots C m p) n (VR g) (Bl (tg.ast ((f.nmOf g).comp ns slots)) (f.comp g ns slots C m p).env v>>=λoo=>eval (el.ast ((f.nmOf g).comp ns slots)) (f.comp g ns slots C m p).env) P E σ:=by
 have hN:(f.comp g ns slots C m p).nmOf g=(f.nmOf g).comp ns slots:=JH ok
 rw [<- hN] at F ht |-
 exact qu (zD gk u tg ht hv h) λoo oo h oo oo=>el.snd gk u F h
theorem Us (gk:GOk g mg mb) (ok:FOk g f) (hh:f.hd=none) {tg:TG}
  (w:Walk g (f.comp g ns slots C m f.prot) I (tg.ast ((f.nmOf g).comp ns slots)) len val obj PW) (a0: ∀k A s hs (Q:yr->yF->Prop) (E:yr->yF->Prop),obj k hs->(∀p∈hs,s.heap.get? p.1=some p.2)->Q (.ref I) s->yP g.M A (Hg (.ref I)) Q E s)
  {el it:EX} (Inv:Nat->List V->List (yu × O)->Prop) (hP: ∀k ys H loc,Inv k ys H->PW ⟨loc,(D,.list ys)::H⟩)
  (h1:slots.Nodup) (h2: ∀k∈slots,k<g.tab.length) (h3: ∀q∈ns,q.1<g.tab.length)
  (X: ∀p k x v N ys H loc,FOk g (f.comp g ns slots C m p)->k<len->val k x N->VR g x v->Inv k ys H->loc.length=slots.length->
   W g (f.comp g ns slots C m p) n (VR g) (Bl (tg.ast ((f.nmOf g).comp ns slots)) (f.comp g ns slots C m p).env v>>=λoo=>eval (el.ast ((f.nmOf g).comp ns slots)) (f.comp g ns slots C m p).env) (λy σ'=>σ'.loc.length=slots.length/\WkH (Inv (k+1) (ys++[y])) σ'.H) (λoo oo=>False) ⟨loc,N++H⟩)
  (hz: ∀k ys H,Inv k ys H->ys.length<=16777216) (hR: ∀s' ys H' loc,Inv len ys H'->Rep g (f.comp g ns slots C m f.prot) ⟨loc,(D,.list ys)::H'⟩ s'->R (.ok .next) s')
    (hl:loc.length=slots.length) (hA:AOk f n A) (ho:obj 0 hs) (hi:qF g (f.comp g ns slots C m f.prot) hs ⟨loc,(D,.list [])::H⟩ s) (h0:Inv 0 [] H):
  W9 g.M A (.compStart (.ListComp (el.ast ((f.nmOf g).comp ns slots)) [⟨tg.ast ((f.nmOf g).comp ns slots),it.ast (f.nmOf g),[],0⟩] (qE (f.nmOf g) ns) (P pp)) 0 (.ref I) (.ref D) (f.comp g ns slots C m f.prot).env) R s:=by
 have hd:A.handled=none:=hA.hd.trans hh
 have loop:W9 g.M A (.compLoop (.ListComp (el.ast ((f.nmOf g).comp ns slots)) [⟨tg.ast ((f.nmOf g).comp ns slots),it.ast (f.nmOf g),[],0⟩] (qE (f.nmOf g) ns) (P pp)) 0 (.ref I) (.ref D) (f.comp g ns slots C m f.prot).env) R s:=by
  refine wR (λk' s'=>∃k loc ys H hs,k<=len/\k'=len - k/\obj k hs/\loc.length=slots.length/\qF g (f.comp g ns slots C m f.prot) hs ⟨loc,(D,.list ys)::H⟩ s'/\Inv k ys H) (λk' s' hI=>?_) len (qW 0 loc [] (Xg H hs (WI _) rfl ho hl hi h0))
  (refine zc hI λk z ys z0=>?_;refine Jn z0 λH hs hk ab a9 hl J hv=>?_;clear hI;subst ab)
  refine Or.elim (W5 k len) (λF=>?_) λai=>?_
  ·refine yK (w.item k _ s' _ hs F hd a9 J (hP _ _ _ _ hv)) (λr s₁ h₁=>?_) λoo oo h=>h.elim
   obtain ⟨v,rfl,h₁⟩:=h₁
   dsimp only
   refine yK h₁ (λoo s₁ h₁=>?_) λoo oo h=>h.elim
   refine xF h₁ λx N hs' hr a4 a8 u=>?_
   have u:qF g (f.comp g ns slots C m f.prot) hs' ⟨z,(D,.list ys)::(N++H)⟩ s₁:=by
    obtain ⟨a1,a2,m',a3,N',b1,b2,b3,b4,b5,b6,b7,b8⟩:=u
    refine qf (b2.perm (H':=(D,.list ys)::(N++H)) Bd) λak c1 c2=>?_
    exact ⟨a1,a2,m',a3,ak,b1,c1,b3.perm (c2.append_left _),b4,b5,b6,b7,λp hp hm=>b8 p hp ((List.Perm.map _ (c2.append_left a3)).mem_iff.mpr hm)⟩
   have big:=u.toRep.big
   refine zk (u.shut) λp sub ag ah=>?_
   refine zk (Rep.hideL ag) λp₂ Z a7 back=>?_
   have ac:FOk g (f.comp g ns slots C m p₂):=ok.comp gk (λb o e=>Z _ _ (sub _ _ e)) h1 h2 h3
   have aj:AOk (f.comp g ns slots C m p₂) n A:=⟨hA.frames,hA.units,hA.depth,hA.hd,hA.guards⟩
   refine yK (X p₂ k x v N ys H z ac F a4 hr hv hl A s₁ aj a7) (λy s₃ h₃=>?_) λe s₂ h=>h.elim λoo h=>h.elim λoo h=>h.2.2.elim
   (refine xW h₃ λyv σ₃ hy a6 ae z2=>?_;refine qk z2 λH₁ H₂ q1 q2 aa=>?_)
   refine kh (back _ _ (Rep.sub (Rep.perm (σ:=σ₃) a6 q1) q2)) hy (hz _ _ _ hv) λs₄ a5=>?_
   exact qj (len - (k+1)) (by exact (zN [.ne (.a VA (.a VB KB)) VC,.ne (.a VD VB) VC] (.nt VA VD) [1,1,-1] rfl (yn (qq [.nt VA VB] (.nl (.a VA KB) VB) rfl F)) (yn hk))) (qW (k+1) σ₃.loc _ (Xg H₂ hs' F rfl a8 ae (qF.back sub big u.free ah a5) aa))
  ·obtain rfl:k=len:=B9 hk ai
   refine yK (w.stop _ s' _ hs hd a9 J (hP _ _ _ _ hv)) (λr s₁ h₁=>?_) λoo oo h=>h.elim
   (refine qZ h₁ λz3 af z4=>?_;refine qZ z4 λe1 e2 e3=>?_;clear h₁;subst z3)
   dsimp only
   exact hR _ _ _ _ hv (J.leave af e1 e2 e3)
 exact D4 loop (a0 0 _ _ _ _ _ ho hi.there loop)
end
noncomputable abbrev kB (N:Nm) (ns:List (Nat × WD)) (slots:List Nat) (tg:TG) (it el:EX) (p:Nat):Expr:=
 .ListComp (el.ast (N.comp ns slots)) [⟨tg.ast (N.comp ns slots),it.ast N,[],0⟩] (qE N ns) (P p)
noncomputable def ZM (N:Nm) (ns:List (Nat × WD)) (slots:List Nat) (tg:TG) (it el:EX):Bool:=
 x8 slots && slots.all (N.lt ·) && ns.all (λp=>N.lt p.1) && ns.all (λp=>p.2 != .cell) && ns.all (λp=>p.2 != .local||((qE N ns).names.lookup (N.nm p.1)==some .local)) && XS (it.ast N) && it.chk N && el.chk (N.comp ns slots) && tg.chk (N.comp ns slots)
section
variable (g:G) (f:Fx) (n:Nat)
def JS (use:Option (yr->Sem Unit)) (Q Q':QV):Prop:=match use with
 |none=>∀y σ,Q y σ->Q' y σ
 |some u=>∀p y σ v,FOk g (f.at p)->Q y σ->VR g y v->W g (f.at p) n Eq (u v) (λ(_:Unit) σ'=>Q' .none σ') (λ_ _=>False) σ
abbrev jL (ns:List (Nat × WD)) (slots:List Nat) (tg:TG) (it el:EX) (p:Nat) (x:V) (Q:QV) (E:QE) (σ:St):Prop:=
 Op 30 (ns,slots,tg,it,el,p,x) (ZM (f.nmOf g) ns slots tg it el=true->∀v use Q',VR g x v->JS g f n use Q Q'->
  W g f n (VR g) (Br (kB (f.nmOf g) ns slots tg it el p) (qE (f.nmOf g) ns) f.env (B6 [⟨tg.ast ((f.nmOf g).comp ns slots),it.ast (f.nmOf g),[],0⟩] (P p)) (Ff []) false (pure v) use) Q' E σ)
end
section
variable {g:G} {f:Fx} {n:Nat} {mg mb:Str->Option yr} {σ:St} {s:yF} {E:QE} {A:y9} {Q:QV}
theorem XA (gk:GOk g mg mb) (ok:FOk g f) (hh:f.hd=none) {obj:yu->Nat->List (yu × Obj)->Prop}
  (a7:xg (f.cells.lookup ·) ns=true)
  (a3: ∀A s v (Q':yr->yF->Prop),AOk f n A->Rep g f σ s->VR g x v->(∀I hs s',obj I 0 hs->qF g f hs ⟨σ.loc,H₀⟩ s'->(∀f',Walk g f' I (tg.ast ((f.nmOf g).comp ns slots)) len val (obj I) PW)->(∀k A s hs (Q:yr->yF->Prop) (E:yr->yF->Prop),obj I k hs->(∀p∈hs,s.heap.get? p.1=some p.2)->Q (.ref I) s->yP g.M A (Hg (.ref I)) Q E s)->Q' (.ref I) s')->
   yP g.M A (Hg v) Q' (EP g f E) s)
  (Inv:Nat->List V->List (yu × O)->Prop) (hP: ∀k ys H loc D,Inv k ys H->PW ⟨loc,(D,.list ys)::H⟩)
  (a2:el.chk ((f.nmOf g).comp ns slots)=true->tg.chk ((f.nmOf g).comp ns slots)=true->∀p m C k x v N ys H loc,FOk g (f.comp g ns slots C m p)->k<len->val k x N->VR g x v->Inv k ys H->loc.length=slots.length->
   W g (f.comp g ns slots C m p) n (VR g) (Bl (tg.ast ((f.nmOf g).comp ns slots)) (f.comp g ns slots C m p).env v>>=λoo=>eval (el.ast ((f.nmOf g).comp ns slots)) (f.comp g ns slots C m p).env) (λy σ'=>σ'.loc.length=slots.length/\WkH (Inv (k+1) (ys++[y])) σ'.H) (λoo oo=>False) ⟨loc,N++H⟩)
  (hz: ∀k ys H,Inv k ys H->ys.length<=16777216) (h0:Inv 0 [] H₀) (a8: ∀ys H D,Inv len ys H->Q (.ref D) ⟨σ.loc,(D,.list ys)::H⟩):jL g f n ns slots tg it el pp x Q E σ:=Op.mk λhc v use Q' hv hu A s hA hs=>by
 unfold ZM at hc
 refine qc (qh hc) λhc c9=>?_
 refine qc (qh hc) λhc c8=>?_
 refine qc (qh hc) λhc c7=>?_
 refine qc (qh hc) λhc c6=>?_
 refine qc (qh hc) λhc c5=>?_
 refine qc (qh hc) λhc c4=>?_
 refine qc (qh hc) λhc c3=>?_
 refine qc (qh hc) λc1 c2=>?_
 have h1:=zu c1
 have h2: ∀k∈slots,k<g.tab.length:=λk hk=>yL.mp (yY.mp c2 k hk)
 have h3: ∀q∈ns,q.1<g.tab.length:=λk hk=>yL.mp (yY.mp c3 k hk)
 have h4: ∀y∈(qE (f.nmOf g) ns).names,y.2≠.cell:=λy hy=>by
  (refine qf (yD.mp hy) λp hp z5=>?_;subst z5)
  have:=yY.mp c4 p hp
  intro e
  simp only at e
  rw [e] at this;exact absurd this (by decide)
 have h5: ∀y∈(qE (f.nmOf g) ns).names,y.2= .local->(qE (f.nmOf g) ns).names.lookup y.1=some .local:=λy hy hl=>by
  (refine qf (yD.mp hy) λp hp z6=>?_;subst z6)
  have:=yY.mp c5 p hp
  simp only at hl
  rw [hl] at this
  refine Or.elim (BF.mp this) (λh=>?_) λh=>?_
  ·exact absurd h (by decide)
  ·exact eq_of_beq h
 refine DS rfl (k7 c6 _) (zM ok a7) rfl h5 (yB (a3 A s v _ hA hs hv λI ae s₂ ho hi w a4=>?_))
 refine zk (hi.shut) λp sub hr ah=>?_
 have big:=hs.big
 have ag:=hr.push (o:= .list []) (obj:=Bi #[] 0) (qU [] 0 (.nil) rfl)
 refine FY ?_ (by decide)
 refine By h4 (by intro y hy;simp at hy) (λh' ai af=>?_) rfl
 refine qf (ag.toG) λm hG hL=>?_
 have R2:=hG.laid (s':={s₂ with heap:=h',toks:=s₂.toks+([]:List (Str × yr)).length}) (f:=f.comp g ns slots (s₂.heap.push (Bi #[] 0)).objs.size m p) (loc:=slots.map λoo=>none) (l:=[]) (val:=λoo=>none) ⟨(jH _ _ rfl),ai,λb o e=>af.extBut b o (BP (Heap.lt_size e)) (Heap.get?_push_of_some _ e),yM _⟩
  (λp hp=>(yI hp).elim) WW (λp hp=>(yI hp).elim) rfl rfl rfl (λi k x e1 e2=>by have:=(QB (φ:=λoo=>none) e1).symm.trans e2;cases this)
 have aj:qF g (f.comp g ns slots (s₂.heap.push (Bi #[] 0)).objs.size m f.prot) ae ⟨slots.map λoo=>none,(s₂.heap.objs.size,.list [])::H₀⟩ {s₂ with heap:=h',toks:=s₂.toks+([]:List (Str × yr)).length}:=qF.back sub big hi.free ah R2
 refine Us gk ok hh (w _) a4 Inv (λk ys H loc h=>hP k ys H loc _ h) h1 h2 h3 (λp k x v N ys H loc ab hk hx hr hv hl=>a2 c8 c9 p m _ k x v N ys H loc ab hk hx hr hv hl) hz (λs' ys H' loc ac a5=>?_) (yq ..) hA ho aj h0
 (refine Qn (Rep.compLeave (f:=f) (loc:=σ.loc) a5 hL) λp' F a1 fC z7=>?_;refine qB z7 λoC mC X a0=>?_)
 have hq:=a8 ys H' s₂.heap.objs.size ac
 cases use with
 |none=>
  refine qk a0 λes ep k1 k2 k3=>?_
  exact qj mC (xi oC es ep (a1.stays _ _ X) k1 k2 k3) (λa9 J=>(qe _ _ (.ref) (a1.butC F big X fC J) (hu _ _ hq)))
 |some u=>
  refine yK (hu p' _ _ (.ref s₂.heap.objs.size) (ok.at F) hq .ref A s' hA.at a1) (λoo aa a9=>?_) λe aa h=>h.elim λoo h=>h.elim λoo h=>h.2.2.elim
  refine qk a9 λoo ak oo Z a6=>?_
  refine qk a0 λes ep k1 k2 k3=>?_
  exact qj mC (xi oC es ep (Z.stays _ _ X) k1 k2 k3) (λh3 J=>(qe _ _ (.none) (Z.butC F big X fC J) a6))
variable {i j:Int}
theorem jL.range (gk:GOk g mg mb) (ok:FOk g f) (hh:f.hd=none) (hm:(r,.rng i j 1)∈σ.H) (hi: -4611686018427387904<=i/\i<4611686018427387904) (hj: -4611686018427387904<=j/\j<4611686018427387904)
  (u:slots.length=1) (X:xg (f.cells.lookup ·) ns=true) (Inv:Nat->List V->List (yu × O)->Prop)
  (F: ∀p m C (k:Nat) ys H,FOk g (f.comp g ns slots C m p)->(k:Int)<j - i->Inv k ys H->el.wp g (f.comp g ns slots C m p) n (λy σ'=>(∃z,σ'.loc=[z])/\Inv (k+1) (ys++[y]) σ'.H) (λoo oo=>False) ⟨[some (.int (i+(k:Int)))],H⟩)
  (hz: ∀k ys H,Inv k ys H->ys.length<=16777216) (h0:Inv 0 [] σ.H) (Z: ∀ys H D,Inv (j - i).toNat ys H->Q (.ref D) ⟨σ.loc,(D,.list ys)::H⟩):jL g f n ns slots (.one 0 q) it el pp (.ref r) Q E σ:=
 XA gk ok hh (obj:=λI=>jn I i (j - i).toNat) (len:=(j - i).toNat) (PW:=λoo=>True) X (λA s v Q' hA hs hv hQ=>by
  obtain rfl:=hv
  refine zc (hs.rng hm) λt₁ u₁ v₁ e=>?_
  have hsz:Builtin.Range.rangeSize i j 1=((j - i).toNat:Int):=rangeSize_nat i j
  refine FP e (small_one hi.1 hi.2 hj.1 hj.2) ?_
  have z:=hs.made (o:={cls:= .type "range_iterator",data:= .fields #[rawInt i,rawInt (Builtin.Range.rangeSize i j 1),rawInt 1]})
  rw [hsz] at z |-
  have z':jn s.heap.objs.size i (j - i).toNat 0 [(s.heap.objs.size,{cls:= .type "range_iterator",data:= .fields #[rawInt i,rawInt ((j - i).toNat:Int),rawInt 1]})]:=by
   have e1:i+((0:Nat):Int)=i:=by exact (za [] (.ze (.a ZA UA) ZA) rfl)
   have e2:((j - i).toNat:Int) - ((0:Nat):Int)=((j - i).toNat:Int):=by exact (qD [] (.ze (.s (.c VA) UA) (.c VA)) rfl)
   unfold jn
   rw [e1,e2]
  exact hQ _ _ _ z' z (λf'=>Walk.range) λk A s hs Q E ho hI hq=>by
   subst ho
   exact wpAny_pyIter_rangeiter (x:=i+(k:Int)) (left:=((j - i).toNat:Int) - (k:Int)) (step:=1) (hI _ (.head _)) hq) Inv (λoo oo oo oo oo oo=>trivial) (λa1 ht p m C k x v N ys H loc J hk hx hr hv hl=>by
    (refine qc hx λz8 z9=>?_;clear hx;subst z8;subst z9)
    rw [u] at hl |-
    rcases loc with _|⟨z,_|_⟩<;>first|(cases hl;done)|skip
    refine xG (wc gk ok J a1 ht hr (show wTg g _ n (.one 0 q) _ _ _ ⟨[z],H⟩ from F p m C k ys H J (by (first|lia|omega)) hv)) (λy σ' h=>?_) λoo oo h=>h
    (refine qc h λa0 h=>?_;obtain ⟨z,e⟩:=a0)
    exact qa (by rw [e];rfl) (.of h)) hz h0 Z
end
theorem vG {m:Sem α} {K:α->Sem β}:m>>=K=m>>=λv=>pure v>>=K:=congrArg _ (funext λv=>(pure_bind v K).symm)
theorem zx:Br e sc env pos na ia first use=first>>=λv=>Br e sc env pos na ia (pure v) use:=by
 exact vG
namespace E
@[reducible] noncomputable def comp (ns:List (Nat × WD)) (slots:List Nat) (tg:TG) (it el:EX) (p:Nat):EX:= .of (λN=>kB N ns slots tg it el p) (λN=>ZM N ns slots tg it el)
 (λg f n Q E σ=>it.wp g f n (λx σ=>jL g f n ns slots tg it el p x Q E σ) E σ)
 (λ{g f n mg mb} gk ok hc {Q E σ} w=>by
  have c7:it.chk (f.nmOf g)=true:=by
   have:=hc
   unfold ZM at this
   exact (qh (qh (qh this).1).1).2
  show W g f n (VR g) (Br (kB (f.nmOf g) ns slots tg it el p) (qE (f.nmOf g) ns) f.env (B6 [⟨tg.ast ((f.nmOf g).comp ns slots),it.ast (f.nmOf g),[],0⟩] (P p)) (Ff []) false (eval (it.ast (f.nmOf g)) f.env)) Q E σ
  rw [zx]
  exact qu (it.snd gk ok c7 w) λx σ h v hv=>h.h hc v Option.none Q hv λoo oo h=>h) λoo oo oo=>rfl
end E
namespace S
end S
noncomputable def yb (g:G) (fd:Fa) (slots:List Nat) (C D cc cda:yu) (i1:Nat):Bool:=
 (fd.scope.names.lookup ("super":Str)==some .globalImplicit) && (fd.scope.names.lookup ("__class__":Str)==some .free) &&
 ((fd.params.posonlyargs++fd.params.args).head?.any λar=>slots[0]?.any λk=>g.nm k==ar.arg) && (fd.code== .ref cda) &&
 (match g.K.lookup cda with|some ⟨_,_,.fields vs,_⟩=>(match (vs:Array yr)[2]? with|some (Value.str file _)=>((g.prog.main.file:Str)==file)|_=>false)|_=>false) &&
 ((g.prog.main.scope.names.lookup ("super":Str)).isSome==false) && (fd.closure.lookup ("__class__":Str)==some cc) &&
 (match g.K.lookup cc with|some ⟨_,_,.cell (some (.ref d)),_⟩=>d==D|_=>false) && (mroIn g.K C (.ref D)==some true) && (subIn g.K (.ref C) (.type "Exception")==some true) &&
 (BA i1 g.tab.length && g.nm i1==("super":Str) && (g.globs.lookup i1==some (.type "super"))) && (nsIn g.K WV "thirdparty.any"==some none) && (clsIn g.K D).isSome &&
 ((clsIn g.K C).any λcd=>alongIn g.K "__init__" ((cd.mro.dropWhile (· != .ref D)).drop 1)==some (some (.builtin "Exception.__init__")))
set_option tactic.hygienic true in
theorem Q4.of (h:yb g fd slots C D cc cda i1=true):Q4 g fd slots C D cc cda i1:=by
 unfold yb at h
 refine qc (qh h) λh F=>?_
 refine qc (qh h) λh I=>?_
 refine qc (qh h) λh J=>?_
 refine qc (qh h) λh u=>?_
 refine qc (qh h) λh X=>?_
 refine qc (qh h) λh h9=>?_
 refine qc (qh h) λh h8=>?_
 refine qc (qh h) λh h7=>?_
 refine qc (qh h) λh h6=>?_
 refine qc (qh h) λh h5=>?_
 refine qc (qh h) λh h4=>?_
 refine qc (qh h) λh h3=>?_
 refine qc (qh h) λh1 h2=>?_
 refine qc (qh u) λu k3=>?_
 refine qc (qh u) λk1 k2=>?_
 refine ⟨eq_of_beq h1,eq_of_beq h2,?_,eq_of_beq h4,?_,eq_of_beq h6,eq_of_beq h7,?_,eq_of_beq h9,eq_of_beq X,(qy (yL.mp k1) (eq_of_beq k2) (eq_of_beq k3)),eq_of_beq J,DR.mp I,?_⟩
 ·refine qf (Hj h3) λar e1 h3=>?_
  refine qf (Hj h3) λk e2 h3=>?_
  exact qj ar e1 (qj k e2 (eq_of_beq h3))
 ·cases e:g.K.lookup cda with
  |none=>rw [e] at h5;exact yQ h5
  |some o=>
   obtain ⟨a,b,d,c⟩:=o
   rw [e] at h5
   cases d<;>try (exact yQ h5)
   rename_i vs
   cases e2:(vs:Array yr)[2]? with
   |none=>
    replace h5:(match (vs:Array yr)[2]? with|some (Value.str file _)=>((g.prog.main.file:Str)==file)|_=>false)=true:=h5
    rw [e2] at h5;exact yQ h5
   |some v=>
    replace h5:(match (vs:Array yr)[2]? with|some (Value.str file _)=>((g.prog.main.file:Str)==file)|_=>false)=true:=h5
    rw [e2] at h5
    cases v<;>try (exact yQ h5)
    rename_i file t
    exact qW vs a b (zX c file t rfl e2 h5)
 ·cases e:g.K.lookup cc with
  |none=>rw [e] at h8;exact yQ h8
  |some o=>
   obtain ⟨a,b,d,c⟩:=o
   rw [e] at h8
   cases d<;>try (exact yQ h8)
   rename_i v
   cases v with
   |none=>exact yQ h8
   |some v=>
    cases v<;>try (exact yQ h8)
    rename_i d
    have:=eq_of_beq h8
    subst this
    exact qW a b c rfl
 ·refine qf (Hj F) λcd e h=>?_
  exact qj cd e (eq_of_beq h)
noncomputable def uW (v:yr) (i:Int):Bool:=match v with| .int j _=>j==i|_=>false
theorem JD (h:uW v i=true):VR g (.int i) v:=by
 cases v<;>first|exact yQ h;done|skip
 obtain rfl:=eq_of_beq h
 exact qx _ rfl
noncomputable def Zu (K:B0) (C:yu) (n:Str):yr:=match FO K (.ref C) n with|some (some v)=>v|_=> .none
structure jb (g:G) (cls ofc:List (yu × Nat × Int)):Prop where
 cls:(cls.all λp=>BA p.2.1 g.tab.length && vZ g.K p.1 (g.nm p.2.1) (Zu g.K p.1 (g.nm p.2.1)) && uW (Zu g.K p.1 (g.nm p.2.1)) p.2.2)=true
 ofc:(ofc.all λp=>ofC g.K p.1 (.type "type") (g.nm p.2.1) (Zu g.K p.1 (g.nm p.2.1)) && uW (Zu g.K p.1 (g.nm p.2.1)) p.2.2)=true
section
variable {g:G} {f:Fx} {n:Nat} {mg mb:Str->Option yr} {σ:St} {E:QE} {Q:QV} {cls ofc:List (yu × Nat × Int)}
theorem jb.c (T:jb g cls ofc) (gk:GOk g mg mb) (ok:FOk g f) {a C:yu} {at':List (Nat × V)} {kx:Option yr} {i:Nat} (j:Int) (hm:(a,.inst C at' kx)∈σ.H) (hc:cls.contains (C,i,j)=true) (hl:at'.lookup i=none)
  (h:Q (.int j) σ):zT g f n (.ref a) i Q E σ:=by
 refine qc (qh (j0 T.cls hc)) λh1 h3=>?_
 refine qc (qh h1) λh1 h2=>?_
 exact zT.cls gk ok hm (yL.mp h1) hl h2 (JD h3) h
theorem jb.o (T:jb g cls ofc) (gk:GOk g mg mb) (ok:FOk g f) (j:Int) (hc:ofc.contains (C,i,j)=true) (h:Q (.int j) σ):zT g f n (.fix (.ref C)) i Q E σ:=by
 refine qc (qh (j0 T.ofc hc)) λh1 h2=>?_
 exact zT.ofCls gk ok h1 (JD h2) h
end
section
variable {g:G} {f:Fx} {n:Nat} {mg mb:Str->Option yr} {σ:St} {s:yF} {E:QE} {A:y9} {i:Int}
theorem qo.repB (hd:d≠[]) (hs:d.length<=16) (h1: -1048576<=i) (h2:i<=1048576) (h:Q (.bytes (Wo i.toNat d).flatten) σ):qo g f n .Mult (.bytes d) (.int i) Q E σ:=Op.mk λv w hv hw A s hA hs'=>by
 (refine qA hv λoo C=>?_;clear hv;subst C);(refine qA hw λoo u=>?_;clear hw;subst u)
 exact bytes_mul_any hd h1 h2 hs λt' k=>(qe _ σ (.bytes) (hs'.toks _) h)
end
section
variable {g:G} {f:Fx} {n:Nat} {mg mb:Str->Option yr} {loc:List (Option V)} {H H₁ H₂:List (yu × O)} {s:yF} {E:QE}
theorem wJ (H₁:List (yu × O)): ∀l:List (yu × O),Sub l (l++H₁)
 |[]=>Sub.none _
 |_::r=> .keep (wJ H₁ r)
theorem Rep.take (t:qp H₂ H H₁) (h:Rep g f ⟨loc,H⟩ s):Rep g f ⟨loc,H₂⟩ s:=Rep.sub (σ:=⟨loc,H₂++H₁⟩) (Rep.perm h t.perm) (wJ _ _)
theorem Wk.take {P:St->Prop} (t:qp H₂ H H₁) (h:P ⟨loc,H₂⟩):Wk P ⟨loc,H⟩:=(qe _ H₂ t.perm (wJ _ _) h)
theorem zC.wk (t:qp H₂ H H₁) (h:zC g f n tg x b o Q E ⟨loc,H₂⟩):zC g f n tg x b o Q E ⟨loc,H⟩:=
 Op.mk λht hb ho a ha A s hA hs=>h.h ht hb ho a ha A s hA (hs.take t)
theorem qb.wk (t:qp H₂ H H₁) (h:qb g f n x xs ks Q E ⟨loc,H₂⟩):qb g f n x xs ks Q E ⟨loc,H⟩:=
 Op.mk λu a vs kw ha hv hw A s hA hs=>h.h u a vs kw ha hv hw A s hA (hs.take t)
end
def LsB (g:G) (a:yu) (xs:List V):Prop:=∃vs,VRs g xs vs/\g.base.IsList a vs.toArray
theorem IntsAre.toVRs: ∀{vs:List yr} {ns:List Int},IntsAre vs ns->VRs g (ns.map V.int) vs
 |_,_,.nil=> .nil
 |_,_,.cons _ _ h=> .cons (qx _ rfl) (IntsAre.toVRs h)
section
variable {g:G} {f:Fx} {n:Nat} {mg mb:Str->Option yr} {σ:St} {s:yF} {E:QE} {Q:QV} {i j:Int}
theorem LsB.there (h:LsB g a xs) (ok:FOk g f) (hs:Rep g f σ s): ∃vs,VRs g xs vs/\s.heap.IsList a vs.toArray:=by
 (refine qf h λvs hv u=>?_;refine zk u λo h1 h2 h3=>?_)
 exact qj vs hv (qK o (hs.stays a o (ok.base a o h1)) h2 h3)
theorem IsList.push {h:W0} (x:h.IsList a vs) (o':Obj):(h.push o').IsList a vs:=by
 refine qf x λo h1 h2=>?_
 exact qj o (Heap.get?_push_of_some _ h1) h2
theorem qv.listB {lo hi:Option Int} (hb:LsB g a xs) (ok:FOk g f) (hl:PV l lo) (hu:PV u hi) (hz:xs.length<=Be)
  (h: ∀c,Q (.ref c) {σ with H:=(c,.list ((xs.drop (lo.elim 0 (Bp xs.length))).take (hi.elim xs.length (Bp xs.length) - lo.elim 0 (Bp xs.length))))::σ.H}):qv g f n (.ref a) l u Q E σ:=Op.mk λr v w pos ha hv hw A s hA hs=>by
 obtain rfl:=ha
 refine qf (hb.there ok hs) λvs hr e=>?_
 unfold DM
 refine yo (BB (yo (Bh (yo ?_))) (by show 3<=_;decide))
 rw [Dp (by intro e;cases e)]
 have C:=IsList.push e {cls:= .type "slice",data:= .fields #[v,w,.none]}
 refine yo (WH (T:="list") C.typeIs Dj.lookup ?_)
 refine yB (DG ?_)
 refine Hn C (Heap.IsSliceOf.new ..) (hl.part hv) (hu.part hw) .none (by simp) ?_ (by rw [yJ,hr.length];exact hz)
 have q:=(hs.new (o:={cls:= .type "slice",data:= .fields #[v,w,.none]})).pushL (QZ hr lo hi)
 rw [Fq] at q
 exact qe _ _ (.ref) q (h _)
theorem qv.cutLB (hb:LsB g a xs) (ok:FOk g f) (hi:0<=i) (hj:0<=j) (hz:xs.length<=16777216) (h: ∀c,Q (.ref c) ⟨σ.loc,(c,.list (cut xs i j))::σ.H⟩):qv g f n (.ref a) (.int i) (.int j) Q E σ:=by
 refine qv.listB hb ok (lo:=some i) (hi:=some j) rfl rfl (by rw [Wp];exact hz) λc=>?_
 simp only [DB]
 rw [jW xs hi hj]
 exact h c
end
noncomputable def JG (K:B0) (tab:List Str) (globs:List (Nat × yr)):Bool:=globs.all λp=>BA p.1 tab.length && (match nsIn K W7 (tab.getD p.1 Str.empty) with
 |some (some v)=>v==p.2
 |some none=>(bootBuiltins (tab.getD p.1 Str.empty)==some p.2) && !(tab.getD p.1 Str.empty==("__name__":Str))
 |none=>false)
theorem Yh {g:G} {mg mb:Str->Option yr} (X:g.K.In g.base) (Gl:g.base.Ns W7 mg) (B: ∀x:Str,x≠"__name__"->mb x=bootBuiltins x) (hc:JG g.K g.tab g.globs=true):
  ∀i v,g.globs.lookup i=some v->i<g.tab.length/\(mg (g.nm i)=some v\/(mg (g.nm i)=none/\mb (g.nm i)=some v)):=λi v h=>by
 have hm:=yY.mp hc _ (mem_of_lookup h)
 refine qc (qh hm) λh1 h2=>?_
 refine qa (yL.mp h1) ?_
 dsimp only at h2
 unfold Mine.Internal.G.nm
 cases q:nsIn g.K W7 (g.tab.getD i Str.empty) with
 |none=>rw [q] at h2;exact yQ h2
 |some u=>
  rw [q] at h2
  cases u with
  |none=>
   refine qc (qh h2) λh3 h4=>?_
   refine .inr (qa (mg_none_of X Gl q) ((B _ λe=>?_).trans (eq_of_beq h3)))
   rw [e] at h4;exact absurd h4 (by decide)
  |some u=>
   refine .inl (mg_of X Gl (q.trans ?_))
   rw [eq_of_beq (show (u==v)=true from h2)]
theorem qp.under (h:qp a l b):qp a (x::l) (x::b):=by
 induction h with
 |nil=>exact .nil
 |cons r _ ih=>exact .cons (.tail r) ih
section
variable {g:G} {f:Fx} {n:Nat} {mg mb:Str->Option yr} {σ:St} {s:yF} {E:QE} {A:y9} {Q:QF} {i j:Int} {hs hs':List (yu × Obj)}
noncomputable abbrev Zz (it:yu) (k:Int) (old:yr):Obj:={cls:= .type "enumerate",dict:=none,data:= .fields #[.none,.bool false,.ref it,rawInt k,.none,old],slots:= #[]}
abbrev uv (inner:Nat->Obj->Prop) (e it:yu) (k:Nat) (hs:List (yu × Obj)):Prop:=∃old oi,hs=[(e,Zz it (k:Int) old),(it,oi)]/\inner k oi
def wG (g:G) (it:yu) (ys:List V) (inner:Nat->Obj->Prop) (PW:St->Prop):Prop:=
 ∀(f:Fx) A s σ,A.handled=none->PW σ->Rep g f σ s->(∃k oi,s.heap.get? it=some oi/\inner k oi)->∃fp Pv St,Draws g.prog g.w A it fp ys.length Pv St/\(∀b∈fp,b=it\/∃o,s.heap.get? b=some o/\o.cls≠.type "enumerate")/\
  (∀k h oi,(∀b∈fp,b≠it->∀o,s.heap.get? b=some o->h.get? b=some o)->h.get? it=some oi->inner k oi->St k h)/\(∀k v,Pv k v->∃y,ys[k]? =some y/\VR g y v)/\(∀k h,St k h->∃oi,h.get? it=some oi/\inner k oi)
theorem Walk.enum (hi0: ∀k oi,inner k oi->oi.cls≠.type "enumerate") (D:wG g it ys inner PW):
  Walk g f e (.Tuple es kt p) ys.length (λk x N=>∃T y,ys[k]? =some y/\x= .ref T/\N=[(T,.tup [.int (k:Int),y])]) (uv inner e it) PW where
 item:=λk A s σ hs hk hh ho hi hm=>by
  (refine qB ho λold oi z14 hin=>?_;clear ho;subst z14)
  have h1:=hi.there (e,_) (.head _)
  have h2:=hi.there (it,_) (.tail _ (.head _))
  dsimp only at h1 h2
  have ne:e≠it:=λq=>by rw [q,h2] at h1;obtain rfl:=Wc.inj h1;exact hi0 _ _ hin rfl
  refine ja (D f A.in1 s σ hh hm hi.toRep ⟨_,_,h2,hin⟩) λfp Pv St D d1 d2 d3 d4=>?_
  have ef:e ∉ fp:=λq=>by
   rcases d1 e q with q|⟨o,q,r⟩
   ·exact ne q
   ·rw [h1] at q;obtain rfl:=Wc.inj q;exact r rfl
  refine wpAny_pyNext_enum_itemD D (old:=old) (i:=k) h1 (d2 k _ oi (λoo oo oo oo e=>e) h2 hin) hk ne ef λx h' tk hP ho hs' hT hsz hkp=>(qj _ rfl ?_)
  refine qf (d3 _ _ hP) λy y1 y2=>?_
  refine wpAny_letOwnedTupleGo_enum (s:={s with heap:=h',toks:=tk+1}) ho λh'' he hb=>?_
  refine qf (d4 _ _ hs') λoi' i1 i2=>?_
  have i1':h''.get? it=some oi':=(hb.2 it ne.symm).trans i1
  have hTe:s.heap.objs.size≠e:=Fn (Heap.lt_size h1)
  refine xi (.ref s.heap.objs.size) [(s.heap.objs.size,.tup [.int (k:Int),y])] [(e,Zz it ((k:Int)+1) x),(it,oi')] (.ref) (qe _ y y1 rfl rfl) (qU x oi' rfl i2) ?_
  refine hi.tell (s':={s with heap:=h'',toks:=tk+1}) (hs':=[(e,Zz it ((k:Int)+1) x),(it,oi')]) (o:= .tup [.int (k:Int),y]) (ob:={cls:= .type "tuple",data:= .seq #[.int k tk,x]}) rfl (λb hb' x e0=>?_) (λp hp=>?_) rfl rfl rfl (yM _) ((hb.2 _ hTe).trans hT) (qU [.int k tk,x] 0 (.cons .int (.cons y2 .nil)) rfl)
  ·have n1:b≠e:=λq=>hb' (by rw [q];exact .head _)
   have n2:b≠it:=λq=>hb' (by rw [q];exact .tail _ (.head _))
   exact (hb.2 b n1).trans (hkp b x n1 n2 e0)
  ·rcases yy.mp hp with rfl|hp
   ·exact he
   ·rw [yN.mp hp];exact i1'
 stop:=λA s σ hs hh ho hi hm=>by
  (refine qB ho λold oi z15 hin=>?_;clear ho;subst z15)
  have h1:=hi.there (e,_) (.head _)
  have h2:=hi.there (it,_) (.tail _ (.head _))
  dsimp only at h1 h2
  refine ja (D f A.in1 s σ hh hm hi.toRep (qU _ _ h2 hin)) λfp Pv St D d1 d2 d3 d4=>?_
  exact wpAny_pyNext_enum_endD D (old:=old) h1 (d2 _ _ oi (λoo oo oo oo e=>e) h2 hin) λh' hx=>(zQ rfl (λb hb x e=>hx b x (λq=>hb (by rw [q];exact .tail _ (.head _))) e) rfl (qa rfl rfl))
abbrev vS (l:yu) (k:Nat) (o:Obj):Prop:=o.cls= .type "list_iterator"/\o.data= .fields #[.ref l,.int (k:Int) 0]
theorem ki:wG g it xs (vS l) (λσ=>(l,.list xs)∈σ.H):=λf A s σ hh hm hr zf=>zf.elim λk zf=>zf.elim λoi zf=>zf.elim λhi zf=>zf.elim λc1 c2=>by
 refine qB (hr.list hm) λvs c hv e=>?_
 have ne:l≠it:=λq=>by rw [<- q,e] at hi;obtain rfl:=Wc.inj hi;injection c1 with c1;exact absurd c1 (by decide)
 have hl:xs.length=vs.toArray.size:=by rw [yJ,hv.length]
 rw [hl]
 refine ji _ _ _ (Draws.list hh it l ne vs.toArray) (λb hb=>?_) (λk h oi hk e1 e2=>(qa (qK oi e1 e2.1 e2.2) (qz (hk l (.tail _ (.head _)) ne _ e)))) (λk v hx=>?_) (λk h st=>?_)
 ·rcases yy.mp hb with rfl|hb
  ·exact .inl rfl
  ·rw [yN.mp hb];exact .inr (qj _ e (λq=>by injection q with q;exact absurd q (by decide)))
 ·have hx:vs[k]? =some v:=by simpa using hx
  have hk:k<xs.length:=by
   have:=(Wb.mp hx).1
   rw [hv.length] at this;exact this
  refine qf (hv.get (yw hk)) λv' h1 h2=>?_
  rw [hx] at h1;obtain rfl:=Wc.inj h1
  exact qj _ (yw hk) h2
 ·(refine qc st λu oo=>?_;obtain ⟨o,a,b,c⟩:=u);exact qK o a b c
theorem Rep.hide2 (h:Rep g f ⟨loc,(a,.raw oa)::(b,.raw ob)::H⟩ s):qF g f [(a,oa),(b,ob)] ⟨loc,H⟩ s:=by
 refine jk h λm u N x y z w e1 e2 e3=>?_
 (refine qk y λoo oo X J C=>?_;refine qk C λoo N' I F y'=>?_;clear y;subst X;subst J;subst I;subst F)
 have z':Lay f.prot ([(a,oa),(b,ob)]++(u++N')) s.heap:=z.perm (by
  show (u++([(a,oa)]++([(b,ob)]++N'))).Perm _
  rw [<- yG [(a,oa)],<- yG u,<- yG _ u]
  exact WA.append_right _)
 have nd:=z'.nodup
 rw [yE,Wm] at nd
 exact ⟨λp hp=>z'.there p (yA _ hp),λp hp=>z'.fresh p (yA _ hp),m,u,N',x,y',z'.sub (.drop (.drop (Sub.refl _))),w,e1,e2,e3,λp hp hm=>nd.2.2 _ (yT hp) _ hm rfl⟩
theorem Rep.tell2 (h:Rep g f σ s) {a b:yu} (hk: ∀c o,s.heap.get? c=some o->h'.get? c=some o) (ha:s.heap.objs.size<=a) (hb:s.heap.objs.size<=b) (ne:b≠a) (ea:h'.get? a=some oa) (eb:h'.get? b=some ob):Rep g f ⟨σ.loc,(b,.raw ob)::(a,.raw oa)::σ.H⟩ {s with heap:=h'}:=by
 refine jk h λm u N x y z w e1 e2 e3=>?_
 have old: ∀p∈u++N,p.1<s.heap.objs.size:=z.old
 refine wj m u ([(b,ob)]++([(a,oa)]++N)) x (.cons rfl (.cons rfl y)) ?_ w e1 e2 e3
 refine Lay.perm (all:=(b,ob)::(a,oa)::(u++N)) ⟨?_,λq hq=>?_,λq hq=>?_,λc o e=>hk _ _ (z.stays c o e),z.big,λq hq=>?_⟩ (by
  show ([(b,ob),(a,oa)]++(u++N)).Perm (u++([(b,ob),(a,oa)]++N))
  rw [<- yG,<- yG u]
  exact WA.append_right _)
 ·rw [yH,yH,Wd,Wd,yy,not_or]
  refine qy (qa ne (λhm=>?_)) (λhm=>?_) z.nodup
  ·refine qf (yD.mp hm) λq hq e=>?_;exact WL _ (Wi (old q hq) (by rw [e];exact hb))
  ·refine qf (yD.mp hm) λq hq e=>?_;exact WL _ (Wi (old q hq) (by rw [e];exact ha))
 ·rcases yy.mp hq with rfl|hq
  ·exact eb
  ·rcases yy.mp hq with rfl|hq
   ·exact ea
   ·exact hk _ _ (z.there q hq)
 ·rcases yy.mp hq with rfl|hq
  ·exact z.new hb
  ·rcases yy.mp hq with rfl|hq
   ·exact z.new ha
   ·exact z.fresh q hq
 ·rcases yy.mp hq with rfl|hq
  ·exact z.static hb
  ·rcases yy.mp hq with rfl|hq
   ·exact z.static ha
   ·exact z.low q hq
theorem zC.enum (gk:GOk g mg mb) (ok:FOk g f) (hh:f.hd=none) (X: ∀k oi,inner k oi->oi.cls≠.type "enumerate") (D:wG g it ys inner PW) (Z:inner 0 oi)
     (Inv:Nat->St->Prop) (hm: ∀k σ,Inv k σ->PW σ) (h0:Inv 0 ⟨loc,H⟩)
  (u: ∀p k T y σ,FOk g (f.at p)->ys[k]? =some y->Inv k σ->wD g (f.at p) n (.ref T) l.length (λxs σ=>wSs g (f.at p) n b (turn (Wk (Inv (k+1))) Q) E {σ with loc:=sts l xs σ.loc}) E ⟨σ.loc,(T,.tup [.int (k:Int),y])::σ.H⟩)
  (C: ∀σ,Inv ys.length σ->wSs g f n o Q E σ):zC g f n (.tup l kt p) (.ref e) b o Q E ⟨loc,(e,.raw (Zz it 0 old))::(it,.raw oi)::H⟩:=Op.mk λht hb ho a ha A s hA hs=>by
 obtain rfl:=ha
 have hi:=hs.hide2
 refine yo (Wr (wpAny_pyIter_enum (hi.there (e,_) (.head _)) ?_))
 exact jN gk ok hh (Walk.enum X D) Inv hm ht hb ho (λp k x N σ J hk hx hv=>by (refine qk hx λT y h1 I F=>?_;clear hx;subst I;subst F);exact u p k T y σ J h1 hv) C A _ _ _ hA ⟨_,_,rfl,Z⟩ hi h0
theorem zC.enumC (gk:GOk g mg mb) (ok:FOk g f) (hh:f.hd=none) (X: ∀k oi,inner k oi->oi.cls≠.type "enumerate") (D:wG g it ys inner PW) (Z:inner 0 oi)
     (Inv:Nat->St->Prop) (hm: ∀k σ,Inv k σ->PW σ) (h0:Inv 0 ⟨loc,H⟩)
  (u: ∀p k T y σ,FOk g (f.at p)->ys[k]? =some y->Inv k σ->wD g (f.at p) n (.ref T) l.length (λxs σ=>wCs (f.at p) (λσ=>wSs g (f.at p) n b (turn (Wk (Inv (k+1))) Q) E σ) l xs σ) E ⟨σ.loc,(T,.tup [.int (k:Int),y])::σ.H⟩)
  (C: ∀σ,Inv ys.length σ->wSs g f n o Q E σ):zC g f n (.tupc l kt p) (.ref e) b o Q E ⟨loc,(e,.raw (Zz it 0 old))::(it,.raw oi)::H⟩:=Op.mk λht hb ho a ha A s hA hs=>by
 obtain rfl:=ha
 have hi:=hs.hide2
 refine yo (Wr (wpAny_pyIter_enum (hi.there (e,_) (.head _)) ?_))
 exact jN gk ok hh (Walk.enum X D) Inv hm ht hb ho (λp k x N σ J hk hx hv=>by (refine qk hx λT y h1 I F=>?_;clear hx;subst I;subst F);exact u p k T y σ J h1 hv) C A _ _ _ hA ⟨_,_,rfl,Z⟩ hi h0
end
section
variable {g:G} {f:Fx} {n:Nat} {mg mb:Str->Option yr} {σ:St} {s:yF} {E:QE} {A:y9} {Q:QV} {i j:Int} {hs hs':List (yu × Obj)}
theorem qb.enumL (hm:(l,.list xs)∈σ.H) (h: ∀e it oi,vS l 0 oi->Q (.ref e) ⟨σ.loc,(e,.raw (Zz it 0 .none))::(it,.raw oi)::σ.H⟩):qb g f n (.fix (.type "enumerate")) [.ref l] [] Q E σ:=
 qb.of_builtin rfl λvs kw hv hk A s hA hs=>by
  obtain rfl:=hk
  (refine qk hv λoo oo C u h2=>?_;clear hv;subst C;subst u)
  obtain rfl:=h2
  refine qB (hs.list hm) λus c hr e=>?_
  refine call_enumerate_list (qz e) λh' he hl hsz hk=>?_
  refine zk hl λoi i1 i2 i3=>?_
  exact qe _ _ (.ref) (hs.tell2 hk (yM _) (Nat.le_succ _) (Fn (Hp _)) i1 he) (h _ _ oi (qa i2 i3))
end
section
variable {prog:DU} {w:DV} {A:y9} {E:yr->yF->Prop} {s:yF} {b:Array UInt8} {t:Tok}
open KBw
end
section
variable {g:G} {f:Fx} {n:Nat} {mg mb:Str->Option yr} {σ:St} {s:yF} {E:QE} {A:y9} {Q:QV} {i j:Int}
theorem Rep.tell1 (h:Rep g f σ s) {a:yu} (hk: ∀c o,s.heap.get? c=some o->h'.get? c=some o) (ha:s.heap.objs.size<=a) (ea:h'.get? a=some ob) (hr:OR g a o [(a,ob)]):Rep g f ⟨σ.loc,(a,o)::σ.H⟩ {s with heap:=h'}:=by
 refine jk h λm u N x y z w e1 e2 e3=>?_
 exact wj m u ((a,ob)::N) x (.cons (N₁:=[(a,ob)]) hr y) ((z.cons ha ea hk).perm Bd.symm) w e1 e2 e3
end
noncomputable section
noncomputable abbrev Zx:Arguments:={posonlyargs:=[],args:=[],vararg:=none,kwonlyargs:=[],kw_defaults:=[],kwarg:=none,defaults:=[]}
noncomputable def Nm.lam (N:Nm) (ns:List (Nat × WD)):Nm:=⟨N.tab,ns.map λp=>(N.nm p.1,p.2),[]⟩
def qC (q:Str) (P:yu) (L:List (yu × Obj)):Prop:=∃(ps:Array yr) (cs:List (yu × Obj)),L=(P,DT ps)::cs/\TriplesOk ps.toList/\
 ∀pos v,FS pos ps.toList=some v->∃c co vs t,v= .ref c/\(c,co)∈cs/\co.data= .fields vs/\vs[1]? =some (.str q t)
theorem qC.nil {P:yu}:qC q P [(P,DT #[])]:=(qe (#[]) [] rfl trivial (λoo oo h=>by cases h))
set_option tactic.hygienic true in
theorem QR (l:List yr) (h:TriplesOk l) (hn:FS pos (l++[rawInt a,rawInt b,c])=some v):FS pos l=some v\/v=c:=by
 fun_induction TriplesOk l with
 |case1=>
  simp only [DI,FS,rawInt] at hn
  split at hn
  ·obtain rfl:=Wc.inj hn;exact .inr rfl
  ·cases hn
 |case2 a' t b' u x g ih=>
  simp only [B4,FS] at hn |-
  split at hn
  ·rename_i hc;rw [if_pos hc];exact .inl hn
  ·rename_i hc;rw [if_neg hc];exact ih h hn
 |case3 l h1 h2=>exact h.elim
def JM (q:Str) (clos:List (Str × yu)) (scope:Scope) (body:Expr) (L:List (yu × Obj)) (fo:Obj):Prop:=
 ∃pm ctv c' co vs t,fo=kla_obj "<lambda>" q Zx body scope clos pm c' ctv/\(c',co)∈L/\co.data= .fields vs/\vs[1]? =some (.str q t)
section
variable {g:G} {f:Fx} {n:Nat} {mg mb:Str->Option yr} {σ:St} {s:yF} {E:QE} {A:y9} {Q:QV}
theorem Lay.grow {X:List yu} (L:Lay prot all h) (hk: ∀b,b ∉ X->∀x,h.get? b=some x->h'.get? b=some x) (hX: ∀p∈all,p.1 ∉ X) (hp: ∀b∈X,prot.get? b=none)
  (hn: ∀p∈news,h.objs.size<=p.1) (nd:(news.map (·.1)).Nodup) (ht: ∀p∈news,h'.get? p.1=some p.2):Lay prot (news++all) h':=by
 refine ⟨?_,λp m=>?_,λp m=>?_,λb o e=>hk b (λq=>by rw [hp b q] at e;cases e) o (L.stays b o e),L.big,λp m=>?_⟩
 ·rw [yE,Wm]
  refine qy nd L.nodup (λa ha b hb e=>?_)
  (refine qf (yD.mp ha) λp m1 C=>?_;subst C)
  (refine qf (yD.mp hb) λq m2 u=>?_;subst u)
  have h1:=hn p m1
  have h2:=L.old q m2
  rw [e] at h1;exact WL _ (Wi h2 h1)
 ·refine Or.elim (yR.mp m) (λm=>?_) λm=>?_
  ·exact ht p m
  ·exact hk _ (hX p m) _ (L.there p m)
 ·refine Or.elim (yR.mp m) (λm=>?_) λm=>?_
  ·exact L.new (hn p m)
  ·exact L.fresh p m
 ·refine Or.elim (yR.mp m) (λm=>?_) λm=>?_
  ·exact L.static (hn p m)
  ·exact L.low p m
theorem Rep.lam {P fa c':yu} (h:Rep g f ⟨loc,(P,.many ((P,op)::cs))::H⟩ s) (hk: ∀b,b≠P->∀x,s.heap.get? b=some x->s'.heap.get? b=some x)
  (hP:s'.heap.get? P=some op') (hc:s.heap.objs.size<=c') (hf:s.heap.objs.size<=fa) (ne:fa≠c') (ec:s'.heap.get? c'=some co) (ef:s'.heap.get? fa=some fo) (e1:s'.gens=s.gens) (e2:s'.drawn=s.drawn) (e3:s'.os=s.os):
  Rep g f ⟨loc,(fa,.raw fo)::(P,.many ((P,op')::(c',co)::cs))::H⟩ s':=by
 refine jk h λm u N x y z w z1 z2 z3=>?_
 (refine qk y λoo N' F C y'=>?_;clear y;subst F;subst C)
 have zP:=z.perm (all':=(P,op)::(u++(cs++N'))) (by
  rw [B4];exact Bd)
 have nd:=zP.nodup
 rw [yH,Wd] at nd
 have z':Lay f.prot (u++(cs++N')) s.heap:=zP.sub (.drop (Sub.refl _))
 have fP:=zP.fresh _ (.head _)
 have G:=z'.grow (X:=[P]) (news:=[(fa,fo),(c',co)]) (λb hb=>hk b λq=>hb (by rw [q];exact .head _)) (λp hp hm=>nd.1 (show P∈_ from yN.mp hm ▸ yT hp)) (λb hb=>by rw [yN.mp hb];exact fP)
  (λp hp=>by rcases yy.mp hp with rfl|hp;exact hf;rw [yN.mp hp];exact hc) (by simp [ne]) (λp hp=>by rcases yy.mp hp with rfl|hp;exact ef;rw [yN.mp hp];exact ec)
 have lP:=zP.old _ (.head _)
 refine wj m u ([(fa,fo)]++(((P,op')::(c',co)::cs)++N')) x (.cons rfl (.cons rfl y')) ?_ w (e1.symm ▸ z1) (e2.trans z2) (e3.trans z3)
 refine Lay.perm (all:=(P,op')::([(fa,fo),(c',co)]++(u++(cs++N')))) ⟨?_,λp hp=>?_,λp hp=>?_,G.stays,G.big,λp hp=>?_⟩ ?_
 ·rw [yH,Wd]
  refine qa (λhm=>?_) G.nodup
  rw [yE] at hm
  refine Or.elim (yR.mp hm) (λhm=>?_) λhm=>?_
  ·refine Or.elim (yy.mp hm) (λq=>?_) λhm=>?_
   ·exact WL _ (Wi lP (by rw [q];exact hf))
   ·exact WL _ (Wi lP (by rw [yN.mp hm];exact hc))
  ·exact nd.1 hm
 ·rcases yy.mp hp with rfl|hp
  ·exact hP
  ·exact G.there p hp
 ·rcases yy.mp hp with rfl|hp
  ·exact fP
  ·exact G.fresh p hp
 ·rcases yy.mp hp with rfl|hp
  ·exact zP.low (P,op) (.head _)
  ·exact G.low p hp
 ·refine List.Perm.trans (List.Perm.swap (fa,fo) (P,op') ((c',co)::(u++(cs++N')))) ?_
  show ([(fa,fo),(P,op'),(c',co)]++(u++(cs++N'))).Perm (u++([(fa,fo),(P,op'),(c',co)]++(cs++N')))
  rw [<- yG,<- yG u]
  exact WA.append_right _
end
section
variable (g:G) (f:Fx) (n:Nat)
abbrev xZ (ns:List (Nat × WD)) (body:EX) (p:Nat) (Q:QV) (E:QE) (σ:St):Prop:=
 Op 31 (ns,body,p) (W g f n (VR g) (eval (.Lambda Zx (body.ast ((f.nmOf g).lam ns)) (qE (f.nmOf g) ns) (P p)) f.env) Q E σ)
end
section
variable {g:G} {f:Fx} {n:Nat} {mg mb:Str->Option yr} {σ:St} {s:yF} {E:QE} {A:y9} {Q:QV}
theorem xZ.make (gk:GOk g mg mb) (ok:FOk g f) (hcode:f.env.code= .ref c) (C:CodeHd g.base c T) (a5:W7≠T) (hb:g.base.BuiltinsAt mg T) (u:xg (f.cells.lookup ·) ns=true)
   (hL:qC (f.env.qual++"<lambda>") T L)
  (h: ∀fa fo L',qC (f.env.qual++"<lambda>") T L'->JM (f.env.qual++"<lambda>") ((zZ (f.cells.lookup ·) ns []).map λp=>(g.nm p.1,p.2)) (qE (f.nmOf g) ns) (body.ast ((f.nmOf g).lam ns)) L' fo->Q (.ref fa) ⟨loc,(fa,.raw fo)::(T,.many L')::H⟩):
  xZ g f n ns body p Q E ⟨loc,(T,.many L)::H⟩:=Op.mk λA s hA hs=>by
 (refine qk hL λps cs a1 ht F=>?_;clear hL;subst a1)
 have hk:=hs.base ok
 refine qf (hs.mem (.head _)) λoo a4 hm=>?_
 cases a4
 have hP:=hm _ (.head _)
 dsimp only at hP
 refine kla_eval rfl ?_
 cases hc:FS (P p) ps.toList with
 |none=>
  refine kla_makeFunction (zM ok u) ok.globals (gk.gl.keeps hk) hcode (C.keeps hk) hP ht hc a5 (hb.keeps hk) λc' a6 h' tk hx X J I a2=>?_
  refine vD I λc₂ oc vs t e2 a3 hd hv=>?_
  cases e2
  have hz:s.heap.objs.size<=h'.objs.size:=yX X (yV J)
  refine (qe (.ref h'.objs.size) _ (.ref) (Rep.lam (c':=c') hs (s':={s with heap:=h'.push _,toks:=tk}) (λb hb x e=>Heap.get?_push_of_some _ (hx b x hb e)) (Heap.get?_push_of_some _ a2) X hz (Fn J) (Heap.get?_push_of_some _ a3) (Heap.get?_push_size _ rfl) rfl rfl rfl) (h _ _ _ (qe _ _ rfl ?_ (λpos v hp=>?_)) (qW _ _ c' (xi oc vs t rfl (.tail _ (.head _)) hd hv))))
  ·rw [H2];exact TriplesOk_snoc _ _ _ _ ht
  ·rw [H2] at hp
   refine Or.elim (QR _ ht hp) (λq=>?_) λq=>?_
   ·(refine zc (F _ _ q) λc co vs a0=>?_;refine zk a0 λt k1 k2 k3=>?_)
    exact qW c co vs (qK t k1 (.tail _ k2) k3)
   ·exact XZ c' oc vs t q (.head _) hd hv
 |some v=>
  (refine vD (F _ _ hc) λc' co vs t Z k2 k3 k4=>?_;subst Z)
  refine kla_makeFunctionHit (zM ok u) ok.globals (gk.gl.keeps hk) hcode (C.keeps hk) hP ht hc (hb.keeps hk) λa6 h' tk hx hz=>?_
  exact (qe (.ref h'.objs.size) _ (.ref) ((hs.tell1 (o:= .raw _) (h':=h'.push _) (λb x e=>Heap.get?_push_of_some _ (hx b x e)) hz (Heap.get?_push_size _ rfl) rfl).toks tk) (h _ _ _ (qe ps cs rfl ht F) (qW _ _ c' (xi co vs t rfl (.tail _ k2) k3 k4))))
theorem qs.lam (gk:GOk g mg mb) {body:EX} {Q:V->List (yu × O)->Prop}
  (hN:N.tab=g.tab) (hI:JM q (cl.map λp=>(g.nm p.1,p.2)) (qE N ns) (body.ast (N.lam ns)) L fo) (hm:(fa,.raw fo)∈H) (af:(T,.many L)∈H) (hk:k<900) (C:ns.all (λp=> !(p.2== .cell))=true) (X: ∀p∈cl,p.1<g.tab.length) (Z:body.chk (N.lam ns)=true)
  (hw: ∀f,FOk g f->f.nmOf g=N.lam ns->f.cells=cl->f.hd=hd->body.wp g f (k+3) (λx σ'=>∃H',Sub H' σ'.H/\Q x H') (λx σ'=>∃H',Sub H' σ'.H/\E' x H') ⟨[],H⟩):
  qs g k hd (.ref fa) [] [] H Q E':=by
 intro prot a7 frames keep A s vs kw hC hh hG hv ag
 obtain rfl:=hv;obtain rfl:=ag
 (refine zc hI λpm aj c' a5=>?_;refine xF a5 λco us t a6 ae ai ah=>?_;clear hI;subst a6)
 have ab:g.base.StaysIn s.heap:=by
  refine xW hG λoo oo oo oo c oo=>?_
  exact λb o e=>c.stays b o (hC.base b o e)
 obtain ⟨ho,hc⟩:s.heap.get? fa=some _/\s.heap.get? c'=some co:=by
  refine xW hG λak N' a b c oo=>?_
  refine qf (b.get hm) λoo e1 k1=>?_
  refine qf (b.get af) λoo e2 k2=>?_
  cases e1;cases e2
  exact qa (c.there (fa,_) (yx _ (k1 _ (.head _)))) (c.there (c',co) (yx _ (k2 _ ae)))
 have u:A.depth<W1:=WJ hC.depth (Bx hk (by decide))
 have a8: ∀x∈(qE N ns).names,x.2≠.cell:=λx hx=>by
  (refine qf (yD.mp hx) λp hp a4=>?_;subst a4)
  have:=yY.mp C p hp
  intro e
  dsimp only at e
  rw [e] at this;exact absurd this (by decide)
 refine kla_callFunE u ho rfl rfl rfl rfl (XZ c' co us t rfl hc ai ah) ?_
 rw [show Fb (kla_fn "<lambda>" q Zx (body.ast (N.lam ns)) (qE N ns) (cl.map λp=>(g.nm p.1,p.2)) pm (.ref c') aj) ⟨[],[]⟩=pure [] from rfl]
 refine yB (By a8 (by intro y hy;simp at hy) (λh₀ ac J=>(qa ((gk.nolimit.keeps ab).fresh _ J) ?_)) rfl)
 let env:Env:=Bu (qE N ns) s.heap.objs.size W7 (cl.map λp=>(g.nm p.1,p.2)) (q++".<locals>.") (some fa) (.ref c') none Db
 let f:Fx:=⟨env,s.heap.objs.size,[],cl,prot,env::frames,a7,hd,keep⟩
 have ok:FOk g f:=by
  refine ⟨rfl,rfl,rfl,rfl,WW,λoo h=>(yI h).elim,λi a h=>?_,hC.base,(by have:=hC.hdc;rw [hh] at this;exact this),(qU _ frames rfl rfl),λe F=>?_⟩
  ·exact Q9 gk (X _ (mem_of_lookup h)) X h
  ·rcases yy.mp F with rfl|F
   ·exact qa (show ScopeKind.function≠.module by decide) (qj _ rfl (.inl rfl))
   ·(refine qc (hC.fun_ e F) λq1 a3=>?_;refine qf a3 λb q2 q3=>?_)
    exact qa q1 (qj b q2 (.inr q3))
 have hA:AOk f (k+3) (A.deeper f.env):=⟨Around.frames_deeper hC.frames,yU hC.units 3,by show A.depth+1<=k+3;have:=hC.depth;exact (qq [.nl VA VB] (.nl (.a VA KB) (.a VB KD)) rfl this),hh,hC.guards⟩
 have I:f.nmOf g=N.lam ns:=by
  show Nm.mk g.tab (ns.map λp=>(N.nm p.1,p.2)) []=⟨N.tab,_,[]⟩
  rw [hN]
 have R:=hG.laid (s':={s with heap:=h₀,toks:=s.toks+([]:List (Str × yr)).length}) (f:=f) (loc:=[]) (l:=[]) (val:=λoo=>none) ⟨(jH _ _ rfl),ac,λb o e=>J.extBut b o (BP (Heap.lt_size e)) (Heap.get?_push_of_some _ e),yM _⟩
  (λp hp=>(yI hp).elim) WW (λp hp=>(yI hp).elim) rfl rfl rfl (λi k x e1 e2=>by cases e2)
 have we:=body.snd (n:=k+3) gk ok (by rw [I];exact Z) (hw f ok I rfl rfl)
 rw [I] at we
 refine kla_codeExpr (yK (we (A.deeper f.env) _ hA R) (λv s' h=>?_) λe s' h=>?_)
 ·(refine qk h λx σ' hr hs' a2=>?_;refine qf a2 λH' hsub hq=>?_)
  exact qe x H' hr (hs'.leave hsub) hq
 ·(refine qk h λx σ' a1 hx a0=>?_;refine qf a0 λH' hsub hq=>?_;clear h;subst a1)
  unfold FE
  refine yo (jt ok hA.frames hx λs₂ aa=>xo ok aa.x λs₃ a9 oo=>(qe x H' rfl (zF.leave a9 hsub) hq))
end
namespace E
@[reducible] noncomputable def lam (ns:List (Nat × WD)) (body:EX) (p:Nat):EX:= .of (λN=> .Lambda Zx (body.ast (N.lam ns)) (qE N ns) (P p)) (λN=>true)
 (λg f n Q E σ=>xZ g f n ns body p Q E σ) (λ{g f n mg mb} gk ok hc {Q E σ} h=>h.h) λ_ _ _=>rfl
end E
end
section
variable {g:G} {f:Fx} {n:Nat} {mg mb:Str->Option yr} {σ:St} {s:yF} {E:QE} {A:y9} {Q:QV} {i j:Int}
theorem qv.takeY (hj:0<=j) (hz:b.length<=16777216) (h:Q (.bytes (b.take j.toNat)) σ):qv g f n (.bytes b) .none (.int j) Q E σ:=by
 refine qv.bytes (lo:=none) (hi:=some j) rfl rfl hz ?_
 rw [KBc.picked_eq]
 have:=jW b (Bk 0) hj
 have e0:Bp b.length 0=0:=by unfold Bp;rw [if_neg (by exact (Bw.mpr (LB [] [] [] (.zl UA UA) [1] rfl)))];exact (uA [.ze (.c VA) ZA,.ze ZA ZB,.ze ZB UA] (.ne VA KA) [1,0,0,0] [1,1,1,1] rfl (yz (vt [.ze ZA ZB,.ze ZB UA] (.zl UA ZA) [1,-1,-1] rfl (WS (F8.mpr (qa (LB [] [] [] (.zl UA UA) [1] rfl) (yt _)))) (BU (yt _)))) (WS (F8.mpr (qa (LB [] [] [] (.zl UA UA) [1] rfl) (yt _)))) (BU (yt _)))
 rw [e0] at this
 simp only [DB,yJ]
 rw [this]
 exact h
theorem qv.dropY (hi:0<=i) (hz:b.length<=16777216) (h:Q (.bytes (b.drop i.toNat)) σ):qv g f n (.bytes b) (.int i) .none Q E σ:=by
 refine qv.bytes (lo:=some i) (hi:=none) rfl rfl hz ?_
 rw [KBc.picked_eq]
 simp only [DB,yJ]
 have e:Bp b.length i=min i.toNat b.length:=by
  unfold Bp;rw [if_neg (by exact (Bw.mpr hi))]
  by_cases hb:i<=b.length
  ·rw [BU hb,WS hi,Wz (by exact (Ur [.zl ZA (.c VA),.ze (.c VB) ZA] (.nl VB VA) rfl hb (yz hi)))]
  ·rw [Ho (by exact (Xm [.zt (.c VA) ZA] (.zl (.c VA) ZA) rfl (WM.mp hb))),WS (by exact (yt _)),B5 (by exact (wF [.zt (.c VA) ZA,.ze (.c VB) ZA] (.nl VA VB) [1,1,-1] rfl (WM.mp hb) (yz hi)))];rfl
 rw [e,WP (by rw [Ws];exact (qD [] (.nl VA VA) rfl))]
 by_cases hl:i.toNat<=b.length
 ·rw [Wz hl];exact h
 ·rw [B5 (by exact (yV (WC hl))),List.drop_length]
  rw [List.drop_eq_nil_of_le (by exact (yV (WC hl)))] at h;exact h
theorem qG.tup (hm:(a,.tup xs)∈σ.H) (h0:0<=i) (hz:i<9223372036854775808) (hx:xs[i.toNat]? =some x) (h:Q x σ):qG g f n (.ref a) (.int i) Q E σ:=
 qG.of PySem.F.slot_tuple_getitem.lookup (λs v hs hv=>by obtain rfl:=hv;refine qB (hs.tup hm) λoo oo oo e=>?_;exact qj _ e rfl)<|Op.mk λv w hv hw A s hA hs=>by
  obtain rfl:=hv;(refine qA hw λu C=>?_;clear hw;subst C)
  refine qB (hs.tup hm) λvs k hr e=>?_
  refine qf (hr.get hx) λy hy I=>?_
  have hl:i.toNat<vs.length:=(Wb.mp hy).1
  refine PyProof.Rows.getItem_tuple (j:=i.toNat) (x:=y) (qK _ e rfl (qx _ rfl)) ?_ ?_ ?_ ?_ (qe _ σ I hs h)
  ·exact (za [.zl UA ZA] (.zl (.n (.k (2^63))) ZA) rfl h0)
  ·exact (za [.zt ZA UU] (.zt ZA (.k (2^63))) rfl hz)
  ·rw [yJ]
   have h2:i<(vs.length:Int):=by exact (wF [.nt VA VB,.ze (.c VA) ZA] (.zt ZA (.c VB)) [1,1,-1] rfl hl (yz h0))
   simp [seqIndex?,h0,h2,show ¬ i<0 by exact (Bw.mpr h0)]
  ·simpa using hy
theorem qt.listB {Q:Bool->St->Prop} (hb:LsB g a xs) (ok:FOk g f) (hz:xs.length<=16777216) (h:Q (!xs.isEmpty) σ):qt g f n (.ref a) Q E σ:=Op.mk λv hv A s hA hs=>by
 obtain rfl:=hv
 refine qf (hb.there ok hs) λvs hr e=>?_
 refine wpAny_truthy_list e (by rw [yJ,hr.length];exact (lz2 hz rfl)) (qe _ σ rfl ((hs.toks _).toks _) ?_)
 have:vs.toArray.isEmpty=xs.isEmpty:=by
  cases xs with
  |nil=>obtain rfl:=hr;rfl
  |cons x r=>(refine qB hr λoo oo u oo=>?_;clear hr;subst u);rfl
 rw [this]
 exact h
theorem qG.listB (hb:LsB g a xs) (ok:FOk g f) (h0:0<=i) (hz:i<9223372036854775808) (hx:xs[i.toNat]? =some x) (h:Q x σ):qG g f n (.ref a) (.int i) Q E σ:=
 qG.of Dj.lookup (λs v hs hv=>by obtain rfl:=hv;refine qf (hb.there ok hs) λvs oo e=>?_;exact e.typeIs)<|Op.mk λv w hv hw A s hA hs=>by
  obtain rfl:=hv;(refine qA hw λu C=>?_;clear hw;subst C)
  refine qf (hb.there ok hs) λvs hr e=>?_
  refine qf (hr.get hx) λy hy F=>?_
  exact wpAny_getItem_list e h0 hz (by simpa using hy) (qe _ σ F hs h)
end
section
variable {g:G} {f:Fx} {n:Nat} {mg mb:Str->Option yr} {σ:St} {s:yF} {E:QE} {A:y9} {Q:QV} {i j:Int}
theorem qb.lam (ok:FOk g f) (hm:(fa,.raw fo)∈σ.H) (hd:fo.data= .func fd)
  (h:qs g n f.hd (.ref fa) xs kvs H₁ Q' E') (p:σ.H.Perm (H₁++H₂)) (hQ: ∀x H',Q' x H'->Q x ⟨σ.loc,H'++H₂⟩) (hE: ∀x H',E' x H'->E x ⟨σ.loc,H'++H₂⟩):qb g f n (.ref fa) xs kvs Q E σ:=Op.mk λC a vs kw ha hv hw=>by
 obtain rfl:=ha
 refine jZ (λA s hA hs=>(qj (.frame) (.inl rfl) ?_)) (Zj ok (yM _) h p hv hw hQ hE)
 (refine qf (hs.mem hm) λoo u r=>?_;subst u)
 refine (Looks.ld (part:=none) (r _ (.head _))).andThen ?_
 dsimp only
 rw [hd]
 exact .now
theorem JM.func (h:JM q clos scope body L fo): ∃fd,fo.data= .func fd:=by
 (refine zc h λoo oo oo u=>?_;refine Xs u λoo oo oo C oo=>?_;clear h;subst C);exact qx _ rfl
theorem J9:Fp (.type "bytes") (dunderI "add")=pure none:=by rw [BV,Bb];kernel_rfl
theorem zG.addB (hz:b.length+c.length<=16777216) (h:Q (.bytes (b++c)) σ):zG g f n .Add (.bytes b) (.bytes c) Q E σ:=Op.mk λx y hx hy A s hA hs=>by
 (refine qA hx λt F=>?_;clear hx;subst F);(refine qA hy λu C=>?_;clear hy;subst C)
 refine iconcat_gives (W6 s _ t) (W6 s _ u) J9 KBy.noFill_bytes_add KBy.seq_bytes_add FB.slot_bytes_add FB.entry_bytes_add (FB.args_bytes_add_2 _ _) (KBy.gives_bytes_add (KBy.tooLong_not (by simpa using hz))) ?_
 by_cases hb:b.toArray.isEmpty=true
 ·rw [if_pos hb]
  have e:b=[]:=by simpa using hb
  subst e
  exact qe (.bytes c) σ (qx u rfl) hs h
 ·rw [if_neg hb]
  by_cases hc:c.toArray.isEmpty=true
  ·rw [if_pos hc]
   have e:c=[]:=by simpa using hc
   subst e
   rw [Wq] at h
   exact qe (.bytes b) σ (qx t rfl) hs h
  ·rw [if_neg hc]
   refine qa (by rw [Array.size_append,Wp];simpa using hz) (qe (.bytes (b++c)) σ (qx s.toks ?_) (hs.toks _) h)
   rw [DF]
end
section
variable {g:G} {f:Fx} {n:Nat} {mg mb:Str->Option yr} {σ:St} {s:yF} {E:QE} {A:y9} {Q:QV} {i j:Int}
theorem jL.list (gk:GOk g mg mb) (ok:FOk g f) (hh:f.hd=none)
  (u:slots.length=1) (X:xg (f.cells.lookup ·) ns=true) (Inv:Nat->List V->List (yu × O)->Prop) (hP: ∀k ys H,Inv k ys H->(l,.list xs)∈H)
  (F: ∀p m C (k:Nat) x ys H,FOk g (f.comp g ns slots C m p)->xs[k]? =some x->Inv k ys H->el.wp g (f.comp g ns slots C m p) n (λy σ'=>(∃z,σ'.loc=[z])/\Inv (k+1) (ys++[y]) σ'.H) (λoo oo=>False) ⟨[some x],H⟩)
  (hz: ∀k ys H,Inv k ys H->ys.length<=16777216) (h0:Inv 0 [] σ.H) (Z: ∀ys H D,Inv xs.length ys H->Q (.ref D) ⟨σ.loc,(D,.list ys)::H⟩):jL g f n ns slots (.one 0 q) it el pp (.ref l) Q E σ:=
 XA gk ok hh (obj:=λI=>Y8 I l) (len:=xs.length) (PW:=λσ=>(l,.list xs)∈σ.H) X (λA s v Q' hA hs hv hQ=>by
  obtain rfl:=hv
  refine qB (hs.list (hP 0 [] _ h0)) λvs c hr e=>?_
  refine wpAny_pyIter_list (qz e) (hQ _ _ _ (qK _ rfl rfl rfl) hs.made (λf'=>Walk.list) λk A s hs Q E ho hI hq=>?_)
  (refine zk ho λo a1 o1 o2=>?_;clear ho;subst a1)
  exact wpAny_pyIter_listiter (qK o (hI _ (.head _)) o1 o2) hq) Inv (λoo oo oo oo oo h=> .tail _ (hP _ _ _ h)) (λa2 ht p m C k x v N ys H loc J hk hx hr hv hl=>by
   obtain ⟨hx,rfl⟩:=hx
   rw [u] at hl |-
   rcases loc with _|⟨z,_|_⟩<;>first|(cases hl;done)|skip
   refine xG (wc gk ok J a2 ht hr (show wTg g _ n (.one 0 q) _ _ _ ⟨[z],H⟩ from F p m C k x ys H J hx hv)) (λy σ' h=>?_) λoo oo h=>h
   (refine qc h λa0 h=>?_;obtain ⟨z,e⟩:=a0)
   exact qa (by rw [e];rfl) (.of h)) hz h0 Z
end
section
variable {g:G} {f:Fx} {n:Nat} {mg mb:Str->Option yr} {σ:St} {Q:QV} {E:QE} {i j:Int} {loc:List (Option V)} {H H₁ H₂ H₃:List (yu × O)}
theorem qb.fnR (gk:GOk g mg mb) (ok:FOk g f) {fa:yu} {slots C:List Nat} {lss:List SX} {xs:List V} {u:List (Nat × V)} {v:V}
  (F:xD g fa slots C lss) (h:qs g n f.hd (.ref fa) xs u H₁ (λy H'=>y=v/\H'=H₃) (λoo oo=>False)) (t:qp H₁ σ.H H₂)
  (hQ:Q v ⟨σ.loc,H₃++H₂⟩):qb g f n (.fix (.ref fa)) xs u Q E σ:=
 qb.fn gk ok F h t (λx H' h=>by (refine qc h λJ I=>?_;clear h;subst J;subst I);exact hQ) λoo oo h=>h.elim
theorem qb.fnE (gk:GOk g mg mb) (ok:FOk g f)
  (F:xD g fa slots cids lss) (h:qs g n f.hd (.ref fa) xs kvs H₁ (λoo oo=>False) (λx H'=>x.cls=C/\H'=H₃)) (t:qp H₁ σ.H H₂)
  (hE: ∀a,E ⟨a,C⟩ ⟨σ.loc,H₃++H₂⟩):qb g f n (.fix (.ref fa)) xs kvs Q E σ:=
 qb.fn gk ok F h t (λx H' h=>h.elim) λx H' h=>by obtain ⟨xa,xc⟩:=x;(refine qc h λI u=>?_;clear h;subst I;subst u);exact hE _
theorem qv.cutBE (a m:Nat) (h1:i=a) (h2:j=a+m) (hz:b.length<=16777216) (e:(b.drop a).take m=c) (q:Q (.bytes c) σ):qv g f n (.bytes b) (.int i) (.int j) Q E σ:=by
 subst h1 h2
 refine qv.cutB (yt _) (qq [] (.zl UA (.a (.c VA) (.c VB))) rfl) hz ?_
 unfold cut
 rw [show ((a:Int)+(m:Int)).toNat - (a:Int).toNat=m by exact (LA [_,_,_,_,_] [] [.ne (.a VA VB) VC,.ze (.c VB) (.c VD),.ze (.c VC) (.a (.c VD) (.c VE))] (.ne VA VE) [1,-1,1,-1] [1,1,-1,1] rfl (yn (zN [.ze (.c VA) (.c VB),.ze (.c VC) (.a (.c VB) (.c VD))] (.nl VA VC) [1,1,-1] rfl (yz (yt _)) (yz (qq [] (.zl UA (.a (.c VA) (.c VB))) rfl)))) (yz (yt _)) (yz (qq [] (.zl UA (.a (.c VA) (.c VB))) rfl))),yW,e]
 exact q
theorem qm.neYs (q:Q (.bool false) σ):qm g f n .NotEq (.bytes b) (.bytes b) Q E σ:=qm.neY (by rw [show (b !=b)=false by simp];exact q)
theorem qm.neYE (e:b=c) (q:Q (.bool false) σ):qm g f n .NotEq (.bytes b) (.bytes c) Q E σ:=by subst e;exact qm.neYs q
theorem qm.neIs {ns:List Int} (e:xs=ns.map V.int) (hm:(a,.list xs)∈σ.H) (hk:(b,.list xs)∈σ.H) (hu:n+64<DY) (q:Q (.bool false) σ):qm g f n .NotEq (.ref a) (.ref b) Q E σ:=by
 subst e
 refine qm.neInts hm hk hu ?_
 rw [decide_eq_true (rfl:ns=ns)]
 exact q
theorem zT.wk (t:qp H₂ H H₁) (h:zT g f n x k Q E ⟨loc,H₂⟩):zT g f n x k Q E ⟨loc,H⟩:=Op.mk λv hv A s hA hs=>h.h v hv A s hA (hs.take t)
theorem qo.repBE (hd:d≠[]) (hs:d.length<=16) (h1: -1048576<=i) (h2:i<=1048576) (e:(Wo i.toNat d).flatten=c) (q:Q (.bytes c) σ):qo g f n .Mult (.bytes d) (.int i) Q E σ:=qo.repB hd hs h1 h2 (by rw [e];exact q)
theorem qv.dropYE (hz:b.length<=16777216) (e:b.drop m=c) (q:Q (.bytes c) σ):qv g f n (.bytes b) (.int (m:Nat)) .none Q E σ:=qv.dropY (yt _) hz (by rw [yW,e];exact q)
theorem qv.takeYE (hz:b.length<=16777216) (e:b.take m=c) (q:Q (.bytes c) σ):qv g f n (.bytes b) .none (.int (m:Nat)) Q E σ:=qv.takeY (yt _) hz (by rw [yW,e];exact q)
end
noncomputable section
noncomputable abbrev G.gen (g:G) (gs:Array Bc):G:={g with gens:=gs}
section
variable {g:G} {gs:Array Bc} {f:Fx} {σ:St} {s:yF} {mg mb:Str->Option yr} {E:QE}
theorem xH:VR (g.gen gs)=VR g:=by funext x v;cases x<;>rfl
theorem uK:OR (g.gen gs)=OR g:=by
 funext a o N
 cases o with
 |list xs=>show (∃vs n,zg (VR (g.gen gs)) xs vs/\_)=_;rw [xH];rfl
 |tup xs=>show (∃vs n,zg (VR (g.gen gs)) xs vs/\_)=_;rw [xH];rfl
 |sdict es=>show (∃u o,zg (λ(a:Nat × V) (e:Str × yr)=>a.1<g.tab.length/\e.1=g.nm a.1/\VR (g.gen gs) a.2 e.2) es u/\_/\_)=_;rw [xH];rfl
 |idict es=>show (∃u o,zg (λ(a:Int × V) (e:Int × yr)=>e.1=a.1/\VR (g.gen gs) a.2 e.2) es u/\_/\_)=_;rw [xH];rfl
 |inst C at' x=>show (∃dx es n,zg (λ(a:Nat × V) (e:DictEntry)=>a.1<g.tab.length/\VR (g.gen gs) a.2 e.val/\∃h t,e=⟨h,.str (g.nm a.1) t,e.val⟩) at' es/\_)=_;rw [xH];rfl
 |cell v=>cases v with
  |none=>rfl
  |some x=>show (∃v o,VR (g.gen gs) x v/\_/\_)=_;rw [xH];rfl
 |rng a b c=>rfl
 |exc0 C t=>rfl
 |raw o=>rfl
 |many L=>rfl
theorem Jd:HR (g.gen gs)=HR g:=by
 funext H
 induction H with
 |nil=>rfl
 |cons p H ih=>funext N;show (∃N₁ N₂,_/\OR (g.gen gs) _ _ _/\HR (g.gen gs) H N₂)=(∃N₁ N₂,_/\OR g _ _ _/\HR g H N₂);rw [uK,ih]
theorem Qm:jc (g.gen gs) sl l m=jc g sl l m:=by
 show (∀(i n:Nat) (x:V),_->_->∃v,_/\VR (g.gen gs) x v)=_;rw [xH];rfl
theorem Rep.gen (h:Rep g f σ s):Rep (g.gen s.gens) f σ s:=by
 refine jk h λm u N a b c d e1 e2 e3=>?_
 exact wj m u N a (by rw [Jd];exact b) c (by rw [Qm];exact d) (.refl e1.2) e2 e3
theorem Rep.ungen (k:GX g.gens gs) (h:Rep (g.gen gs) f σ s):Rep g f σ s:=by
 refine jk h λm u N a b c d e1 e2 e3=>?_
 rw [Jd] at b;rw [Qm] at d
 exact wj m u N a b c d (k.trans e1) e2 e3
theorem Rep.gx (h:Rep g f σ s):GX g.gens s.gens:=by refine xB h λoo oo oo oo oo oo oo e oo=>?_;exact e
theorem ku.ungen {P:W0->List yu->Prop} (k:GX g.gens gs) (h:ku P (g.gen gs) f σ s):ku P g f σ s:=by
 (refine xB h λm C N a b c d u x=>?_;obtain ⟨e1,e2,e3⟩:=u)
 rw [Jd] at b;rw [Qm] at d
 exact xI m C N a b c d (qy (k.trans e1) e2 e3) x
theorem EP.ungen (k:GX g.gens gs) (h:EP (g.gen gs) f E v s):EP g f E v s:=by
 refine qk h λx σ' e h1 h2=>?_
 exact qe x σ' e (ku.ungen k h1) h2
theorem GOk.gen (gk:GOk g mg mb):GOk (g.gen gs) mg mb:=⟨gk.k,gk.gl,gk.bi,gk.nolimit,gk.globs,gk.tab⟩
theorem FOk.gen (ok:FOk g f):FOk (g.gen gs) f:=⟨ok.kind,ok.locals,ok.globals,ok.builtins,ok.slots,ok.slotsLt,ok.cells,ok.base,ok.hd,ok.frames,ok.fun_⟩
theorem FR.ungen (h:FR (g.gen gs) x v):FR g x v:=by
 cases x with
 |ret y=>refine qf h λu e hu=>?_;rw [xH] at hu;exact qj u e hu
 |_=>exact h
theorem qF.gx (h:qF g f hs σ s):GX g.gens s.gens:=h.toRep.gx
end
structure j8 (g:G) (f:Fx) (I:yu) (A:y9) (len:Nat) (val:Nat->V->Prop) (obj:Nat->List (yu × Obj)->Array Bc->Prop) (P:St->Prop) (fine:Bool) (X:Ex->Prop):Prop where
 keep: ∀k hs gs gs',obj k hs gs->GX gs gs'->obj k hs gs'
 gen: ∀s:yF,(∃k hs,obj k hs s.gens/\∀p∈hs,s.heap.get? p.1=some p.2)->∃o:Obj,s.heap.get? I=some o/\o.cls= .type "generator"
 item: ∀k (s:yF) σ hs,k<len->obj k hs s.gens->qF g f hs σ s->P σ->yP g.M A (DP (.ref I)) (λr s₁=>∃v x hs',r=some v/\VR g x v/\val k x/\obj (k+1) hs' s₁.gens/\qF g f hs' σ s₁) (λ_ _=>False) s
 stop: ∀(s:yF) σ hs,obj len hs s.gens->qF g f hs σ s->P σ->yP g.M A (DP (.ref I)) (λr s'=>fine=true/\r=none/\Rep g f σ s') (EP g f λx σ'=>fine=false/\X x/\σ'=σ) s
section
variable {g:G} {f:Fx} {n:Nat} {mg mb:Str->Option yr} {σ:St} {s:yF} {E:QE} {A:y9} {Q:QF}
theorem Uv (gk:GOk g mg mb) (ok:FOk g f) (hh:f.hd=none) {P:St->Prop} (Inv:Nat->St->Prop) (hP: ∀k σ,Inv k σ->P σ)
  (hA:AOk f n A) (w:j8 g f I (A.mark none) len val obj P fine X)
  (ht:tg.chk (f.nmOf g)=true) (hb:xP (f.nmOf g) b=true) (ho:xP (f.nmOf g) o=true)
  (a2: ∀gs p k x σ,FOk (g.gen gs) (f.at p)->k<len->val k x->Inv k σ->wTg (g.gen gs) (f.at p) n tg x (λσ=>wSs (g.gen gs) (f.at p) n b (turn (Wk (Inv (k+1))) Q) E σ) E σ)
  (a9:fine=true->∀σ,Inv len σ->wSs g f n o Q E σ) (ag:fine=false->∀x σ,X x->Inv len σ->E x σ) (ae:obj 0 hs s.gens) (hi:qF g f hs σ s) (h0:Inv 0 σ):
  yP g.M A (runOwn (.forLoop (tg.ast (f.nmOf g)) (.ref I) (xm (f.nmOf g) b) (xm (f.nmOf g) o) f.env) f.env) (λv s'=>∃x σ',FR g x v/\Rep g f σ' s'/\Q x σ') (EP g f E) s:=by
 refine wpAny_runOwn ?_
 refine codeAny_forLoop_any (λm s'=>∃k σ' hs,k<=len/\m=len - k/\obj k hs s'.gens/\qF g f hs σ' s'/\Inv k σ') (λm s' hI=>?_) len (ji 0 σ hs (WI _) rfl ae hi h0)
 (refine ja hI λk σ' hs hk ab a7 a8 hv=>?_;clear hI;subst ab)
 have a3:AOk f n (A.mark none):=⟨hA.frames,hA.units,hA.depth,hA.hd,hA.guards⟩
 refine Or.elim (W5 k len) (λF=>?_) λaf=>?_
 ·refine yK (w.item k s' σ' hs F a7 a8 (hP _ _ hv)) (λr s₁ h₁=>?_) λoo oo h=>h.elim
  (refine ja h₁ λv x hs' aa hr a4 a0 J=>?_;clear h₁;subst aa)
  dsimp only
  refine qf (w.gen s₁ ⟨_,_,a0,J.there⟩) λoI aj ai=>?_
  refine jv aj (by rw [ai];decide) ?_
  have big:=J.toRep.big
  refine zk (J.shut) λp sub ac a6=>?_
  have a1:=ok.at sub
  have gx:=J.gx
  have ah:=a2 s₁.gens p k x σ' a1.gen F a4 hv
  refine yK (zD (g:=g.gen s₁.gens) gk.gen a1.gen tg ht (by rw [xH];exact hr) ah _ s₁ a3.at ac.gen) (λoo s₂ h₂=>?_) λe s₂ h=>xT ok hA.frames (EP.widen sub big (h.ungen gx))
  refine qk h₂ λoo σ₂ oo a5 hw=>?_
  refine yK (sSs (g:=g.gen s₁.gens) gk.gen a1.gen b hb hw _ s₂ a3.at a5) (λfl s₃ h₃=>?_) λe s₂ h=>xT ok hA.frames (EP.widen sub big (h.ungen gx))
  refine qk h₃ λx σ₃ hx C hq=>?_
  have hx:=hx.ungen
  have g3:=C.gx
  have C:=C.ungen gx
  have Z:=w.keep _ _ _ _ a0 g3
  cases x with
  |next=>cases hx;refine qf (Wk.itAt hq (qF.back sub big J.free a6 C)) λσ₄ i4 q4=>?_;exact qj (len - (k+1)) (by exact (zN [.ne (.a VA (.a VB KB)) VC,.ne (.a VD VB) VC] (.nt VA VD) [1,1,-1] rfl (yn (qq [.nt VA VB] (.nl (.a VA KB) VB) rfl F)) (yn hk))) (ji (k+1) σ₄ hs' F rfl Z i4 q4)
  |cont=>cases hx;refine qf (Wk.itAt hq (qF.back sub big J.free a6 C)) λσ₄ i4 q4=>?_;exact qj (len - (k+1)) (by exact (zN [.ne (.a VA (.a VB KB)) VC,.ne (.a VD VB) VC] (.nt VA VD) [1,1,-1] rfl (yn (qq [.nt VA VB] (.nl (.a VA KB) VB) rfl F)) (yn hk))) (ji (k+1) σ₄ hs' F rfl Z i4 q4)
  |brk=>cases hx;exact qe (.next) σ₃ rfl (C.widen sub big) hq
  |ret y=>(refine qf hx λu z0 hu=>?_;clear hx;subst z0);exact qe (.ret y) σ₃ (qj u rfl hu) (C.widen sub big) hq
 ·obtain rfl:k=len:=B9 hk af
  refine yK (w.stop s' σ' hs a7 a8 (hP _ _ hv)) (λr s₁ h₁=>?_) λe s₁ h=>?_
  ·(refine qZ h₁ λhf z1 hr=>?_;clear h₁;subst z1)
   dsimp only
   exact yK (sSs gk ok o ho (a9 hf σ' hv) _ s₁ a3 hr) (λfl s₃ h₃=>h₃) λe s₂ h=>xT ok hA.frames h
  ·(refine ZF h λx σ₁ he hx hf hX z2=>?_;clear h;subst z2)
   exact xT ok hA.frames (qe x σ₁ he hx (ag hf x σ₁ hX hv))
end
end
noncomputable section
section
variable {prog:DU} {w:DV} {A:y9} {s:yF} {E:yr->yF->Prop}
theorem gen_made (hg:h.IsGen a k):Bv M h (Builtin.Generator.madeByALambda (.ref a)) false:=by
 refine xF hg λo nm qn ho hc hd oo=>?_
 refine (Looks.ld ho).andThen ?_
 rw [hc,hd]
 exact .now
def Goes (gs:Bc) (c₀:Code) (t₀:Sem Fin) (fs₀:List Frame):Prop:=
 (gs= .fresh c₀/\t₀=denote table c₀/\fs₀=[])\/(∃k₀ l₀ p₀ cl,gs= .suspended k₀ l₀ c₀ p₀ fs₀ cl/\t₀=k₀ (.send .none))
def uJ (M:Model) (a:yu) (k:Nat) (Q:Option yr->yF->Prop) (E:yr->yF->Prop):End->yF->Prop:=λe s₁=>match e with
 | .ret (.ok v)=>v= .ret .none/\∀h',(∀b o,s₁.heap.get? b=some o->h'.get? b=some o)->Q none {s₁.setGen k .finished with heap:=h'}
 | .ret (.error x)=>Bv M s₁.heap (Dw x (.type "StopIteration")) false/\s₁.heap.IsGen a k/\E x (s₁.setGen k .finished)
 | .susp v g l k₀ c p fs=>Q (some v) (s₁.setGen k (End.susp v g l k₀ c p fs).genState)
theorem Xu (hh : A.handled = none)
    (hl : s.heap.NoLimit) (hroom : A.depth < W1) (hg : s.heap.IsGen a k) (hgs : s.gens[k]? = some gs) (hgo : Goes gs c₀ t₀ fs₀)
    (x : X.SegX (Wf prog w) A.in1 c₀ t₀ fs₀ (s.setGen k .running) (uJ (Wf prog w) a k Q E)) :
    yP (Wf prog w) A (DP (.ref a)) Q E s := by
  have fly : ∀ (e : yr) (s₁ : yF), Bv (Wf prog w) s₁.heap (Dw e (.type "StopIteration")) false -> s₁.heap.IsGen a k -> E e (s₁.setGen k .finished) ->
      yP (Wf prog w) A.in1 (Builtin.Generator.genLeft (.ref a) e : Sem Fin) (λoo oo => False) (λe' s' => yP (Wf prog w) A (do if <- Dw e' (.type "StopIteration") then pure none else throw e' : Sem (Option yr)) Q E s') (s₁.setGen k .finished) := λe s₁ h1 h2 h3 => by
    have L : Bv (Wf prog w) (s₁.setGen k .finished).heap (Dw e (.type "StopIteration")) false := h1
    unfold Builtin.Generator.genLeft Builtin.Generator.genEscaped
    refine yo ((gen_made h2 : Bv (Wf prog w) (s₁.setGen k .finished).heap _ _).here ?_)
    refine yo (L.here ?_)
    rw [DX, if_neg WY]
    refine yo (L.here ?_)
    rw [Bool.not_false, if_pos rfl]
    refine HG ?_
    refine yo (L.here ?_)
    rw [if_neg WY]
    exact HG h3
  unfold DP
  refine yo (wpAny_attempt (wpAny_callSpecial?_slot (name := qS "__next__") hg.typeIs slot_gen_next
    (Fd slot_gen_next hg.typeIs entry_gen_next ?_ (args_gen_next _))))
  show yP _ _ (Builtin.Generator.genWake (.ref a) (.send .none)) _ _ s
  unfold Builtin.Generator.genWake
  refine yo (Wr (wpAny_genNumber hg (yo (wpAny_genState hgs ?_))))
  have hst : gs.status = GenStatus.fresh \/ gs.status = .suspended := by
    rcases hgo with ⟨rfl, _⟩ | ⟨_, _, _, _, rfl, _⟩
    · exact .inl rfl
    · exact .inr rfl
  have wake : ∀ {α : Type} {kk : GenResult -> Sem α} {Q' : α -> yF -> Prop} {E' : yr -> yF -> Prop} {l : List yr},
      X.SegX (Wf prog w) A.in1 c₀ t₀ fs₀ (s.setGen k .running) (λe s₁ => yP (Wf prog w) A.in1 (kk e.result) Q' E' (s₁.setGen k e.genState)) -> yP (Wf prog w) A.in1 (.resume k (.send .none) l kk) Q' E' s := λy Γ p hΓ =>
    X.wake_any _ prog w hgs (hgo.imp (λzf => zf.elim λh1 zf => zf.elim λh2 h3 => (zQ h1 rfl h2 h3)) λzf => zf.elim λk₀ zf => zf.elim λl₀ zf => zf.elim λp₀ zf => zf.elim λcl zf => zf.elim λh1 h2 => (XP k₀ l₀ p₀ cl h1 h2)) (λΓ => Γ.In A.in1) (λoo h => h) (y.mono λoo oo h Γ p hC => h Γ p hC) Γ p hΓ
  have main : yP (Wf prog w) A.in1 (roomToWake >>= λoo => (do match <- resume k (.send .none) with
      | .yielded v => ret v
      | .returned v =>
        if v == .none then raiseNew (<- newExc (.type "StopIteration") [])
        rule "generator.return-value"; throw (<- newExc (.type "StopIteration") [v])
      | .raised e =>
        if let .throw _ := (.send .none : Resume) then
          if gs.status == GenStatus.fresh then rule "generator.throw.into-fresh"; throw e
        Builtin.Generator.genLeft (.ref a) e
      | .running => rule "generator.already-executing"; raiseError "ValueError" "generator already executing"
      | .justStarted => rule "generator.send-to-fresh"; raiseError "TypeError" "can't send non-None value to a just-started generator"
      | .finished =>
        match (.send .none : Resume) with
        | .send _ => raiseNew (<- newExc (.type "StopIteration") [])
        | .throw e => throw e : Sem Fin)) (λr s' => ∃ v, r = .done (.ret v) /\ yP (Wf prog w) A (pure (some v)) Q E s') (λe' s' => yP (Wf prog w) A (do if <- Dw e' (.type "StopIteration") then pure none else throw e' : Sem (Option yr)) Q E s') s := by
    refine yo (wpAny_roomToWake hl hroom ?_)
    show yP _ _ (.resume k (.send .none) [] _) _ _ s
    refine wake (x.mono λe s₁ h =>?_)
    cases e with
    | ret r =>
      cases r with
      | error e => exact yK (fly e s₁ h.1 h.2.1 h.2.2) (λoo oo q => q.elim) λe' s' q => q
      | ok v =>
        (refine qc h λz3 hp =>?_; clear h; subst z3)
        show yP _ _ (newExc (.type "StopIteration") [] >>= _) _ _ _
        refine yo ?_
        simp -iota only [newExc, newTuple]
        refine yo (BB ?_ (by size_fits))
        refine yo (m := firstArgMember _ _) (DC (a := Value.none) (by first | rfl | (simp -iota only [firstArgMember]; rfl)) ?_)
        refine BB ?_ (by size_fits)
        simp -iota only [raiseNew]
        refine yo (yo (wpAny_handled ?_))
        rw [show A.in1.handled = none from hh]
        refine HG ?_
        refine yo (wpAny_isInstance (T := "StopIteration") (b := true) (qj _ (Heap.get?_push_size _ rfl) rfl) isSubtype_stop ?_)
        exact yB (hp _ λb o hb => Heap.get?_push_of_some _ (Heap.get?_push_of_some _ hb))
    | susp v g l k₀ c p fs => exact yB (qj v rfl (yB h))
  rcases hst with e | e <;> (rw [e] at main |-; exact main)
end
end
noncomputable section
noncomputable def uN (g:G) (fd:Fa) (slots:List Nat):Bool:=
 (fd.scope.isCoroutine==false) && (fd.scope.isGenerator==true) && (fd.scope.kind== .function) && (fd.globals==W7) && (fd.builtins==Db) &&
 decide (slots.Nodup) && slots.all (λi=>decide (i<g.tab.length)) && slots.all (λi=>fd.scope.names.lookup (g.nm i)==some .local) && fd.scope.names.all (λx=>x.2 != .cell)
structure vI (g:G) (fd:Fa) (slots:List Nat):Prop where
 co:fd.scope.isCoroutine=false
 gen:fd.scope.isGenerator=true
 kind:fd.scope.kind= .function
 gl:fd.globals=W7
 bi:fd.builtins=Db
 nd:slots.Nodup
 lt: ∀i∈slots,i<g.tab.length
 loc: ∀i∈slots,fd.scope.names.lookup (g.nm i)=some .local
 noc: ∀x∈fd.scope.names,x.2≠.cell
theorem wI (h:uN g fd slots=true):vI g fd slots:=by
 unfold uN at h
 simp only [BI,decide_eq_true_eq,beq_iff_eq,yY,bne_iff_ne] at h
 (refine qc h λz4 a9=>?_;obtain ⟨⟨⟨⟨⟨⟨⟨a1,a2⟩,a3⟩,a4⟩,a5⟩,a6⟩,a7⟩,a8⟩:=z4)
 refine ⟨a1,a2,?_,a4,a5,a6,a7,a8,a9⟩
 cases hk:fd.scope.kind<;>rw [hk] at a3<;>first|rfl|cases a3
noncomputable abbrev Yo (k:Nat) (n q:Str) (t:Nat):Obj:={cls:= .type "generator",data:= .fields #[.int k 0,.str n t,.str q (t+1)]}
section
variable {g:G} {f:Fx} {n:Nat} {mg mb:Str->Option yr} {σ:St} {s:yF} {A:y9}
theorem GX.push (h:AllBare a) (hx:x.bare=true):GX a (a.push x):=(qa (λi y e=>by
 have:i<a.size:=(Bq.mp e).1
 rw [Array.getElem?_push_lt this];exact (DH this).symm.trans e) (h.push hx))
theorem GX.size (h:GX a b):a.size<=b.size:=Wg λhl=>by
 have:=h.1 b.size _ (DH hl)
 simp at this
theorem Rep.itsG (h:Rep g f σ s) (hk: ∀b x,s.heap.get? b=some x->s'.heap.get? b=some x) (hn: ∀p∈hs,s.heap.objs.size<=p.1) (ho: ∀p∈hs,s'.heap.get? p.1=some p.2) (e1:GX s.gens s'.gens) (e2:s'.drawn=s.drawn) (e3:s'.os=s.os):qF g f hs σ s':=by
 refine jk h λm u N a b c d z1 z2 z3=>?_
 refine ⟨ho,λp hp=>c.new (hn p hp),m,u,N,a,b,c.keeps hk,d,z1.trans e1,e2.trans z2,e3.trans z3,λp hp hm=>?_⟩
 refine qf (yD.mp hm) λq hq e=>?_
 exact WL _ (Wi (Heap.lt_size (c.there q hq)) (by rw [e];exact hn p hp))
theorem kS (gk:GOk g mg mb) (ok:FOk g f) {a0 ps:List (Nat × V)}
  (ho:g.K.lookup fa=some ⟨oc,od,.func fd,osl⟩) (aa:codeIn g.K fd.code fd.qualname=true) (X:fd.body= .stmts body) (C:vI g fd slots) (J:A.depth<W1)
  (Z: ∀s vs kw,g.base.StaysIn s.heap->VRs g xs vs->KWR g a0 kw->∃u,BindsTo s fd ⟨vs,kw⟩ u/\KWR g ps u)
  (a6:(ps.map (·.1)).Nodup) (a7: ∀p∈ps,p.1∈slots) (hs:Rep g f σ s) (hv:VRs g xs vs) (hk:KWR g a0 kw)
  (h: ∀a L o m t s',WV<L->qF g f [(a,Yo s.gens.size fd.name fd.qualname t),(L,o)] σ s'->Zh o m->jc g slots (slots.map (ps.lookup ·)) m->
   s'.gens=s.gens.push (.fresh (.func body (Bu fd.scope L fd.globals fd.closure (fd.qualname++".<locals>.") (some fa) fd.code none fd.builtins)))->R (.ok (.ret (.ref a))) s'):
  W9 g.M A (.call (.ref fa) ⟨vs,kw⟩) R s:=by
 have I:g.base.StaysIn s.heap:=by
  refine xF hs λoo oo oo oo oo c oo=>?_
  exact λb o e=>c.stays b o (ok.base b o e)
 refine qf (Z s vs kw I hv hk) λu ac F=>?_
 have KX:g.K.In s.heap:=λa o e=>I a o (gk.k a o e)
 have ab:(u.map (·.1)).Nodup:=by
  rw [F.keys]
  have:=kD gk (l:=ps.map (·.1)) (λi hi=>by
   (refine qf (yD.mp hi) λp hp z5=>?_;subst z5)
   exact F.lts p hp) a6
  rwa [DO] at this
 have a3: ∀x∈u,fd.scope.names.lookup x.1=some .local:=λx hx=>by
  have:x.1∈u.map (·.1):=yT hx
  rw [F.keys] at this
  refine qf (yD.mp this) λp hp e=>?_
  rw [<- e]
  exact C.loc _ (a7 p hp)
 have a4:=hs.gx.2
 refine codeAny_call_generator J (KX _ _ ho) rfl C.co C.gen X (codeRec_of KX aa) (ac _ _ _ _ ?_)
 refine By C.noc a3 (λh₀ a8 a1=>(qa ((gk.nolimit.keeps I).fresh _ a1) ?_)) C.kind
 refine xF a8 λo es ep a2 hd a5 hm=>?_
 have keep: ∀b x,s.heap.get? b=some x->h₀.get? b=some x:=λb x e=>a1.extBut b x (BP (Heap.lt_size e)) (Heap.get?_push_of_some _ e)
 have hsz:s.heap.objs.size<h₀.objs.size:=Heap.lt_size a2
 refine h _ _ o _ (s.toks+u.length) _ (by refine xF hs λoo oo oo oo oo c oo=>?_;exact c.static (yM _)) (hs.itsG (λb x e=>Heap.get?_push_of_some _ (keep b x e)) (λp hp=>?_) (λp hp=>?_) (GX.push a4 rfl) rfl rfl) (qe es ep hd a5 hm)
  (kW gk F λae v a9 i hi e=>xr (by rw [Hh];exact wu ab) (Hi.mpr a9)) rfl
 ·rcases yy.mp hp with rfl|hp
  ·exact yV hsz
  ·rw [yN.mp hp];exact yM _
 ·rcases yy.mp hp with rfl|hp
  ·exact Heap.get?_push_size _ rfl
  ·rw [yN.mp hp];exact Heap.get?_push_of_some _ a2
end
end
noncomputable section
noncomputable abbrev genFx (f:Fx) (env:Env) (L:yu) (slots:List Nat) (p:W0) (m:Str->Option yr):Fx:=⟨env,L,slots,[],p,env::f.frames,(f.L,m)::f.outs,none,[]⟩
structure kg (g:G) (env:Env) (L:yu) (slots:List Nat):Prop where
 kind:env.scope.kind= .function
 locals:env.locals=L
 frame:env.frame=some L
 gl:env.globals=W7
 bi:env.builtins=Db
 nd:slots.Nodup
 lt: ∀i∈slots,i<g.tab.length
section
variable {g:G} {f:Fx} {n:Nat} {mg mb mG:Str->Option yr} {σ:St} {s:yF} {A:y9} {env:Env} {a L:yu} {slots:List Nat} {og o:Obj} {p:W0} {m:Str->Option yr}
theorem FOk.genFx (ok:FOk g f) (C:kg g env L slots) (sub: ∀b o,f.prot.get? b=some o->p.get? b=some o):FOk g (genFx f env L slots p m):=by
 refine ⟨C.kind,C.locals,C.gl,C.bi,C.nd,C.lt,λi a h=>(by cases h),λb o e=>sub b o (ok.base b o e),rfl,(qU env f.frames rfl rfl),λe he=>?_⟩
 rcases yy.mp he with rfl|he
 ·exact qa (by rw [C.kind];decide) (qj L C.frame (.inl rfl))
 ·(refine qc (ok.fun_ e he) λh1 z6=>?_;refine qf z6 λb h2 h3=>?_)
  exact qa h1 (qj b h2 (.inr (h3.elim (λe=>e ▸ .head _) (.tail _))))
theorem vI.ev (C:vI g fd slots):kg g (Bu fd.scope L fd.globals cl q fn fd.code none fd.builtins) L slots:=
 ⟨C.kind,rfl,rfl,C.gl,C.bi,C.nd,C.lt⟩
theorem qF.genIn (h:qF g f [(a,og),(L,o)] σ s) (hl:WV<L) (hc:og.cls= .type "generator") (hd: ∃vs,og.data= .fields vs) (hn:Zh o mG): ∃p m,(∀b x,f.prot.get? b=some x->p.get? b=some x)/\p.get? a=some og/\
  (∀loc,jc g slots loc mG->Rep g (Mine.Internal.genFx f env L slots p m) ⟨loc,σ.H⟩ s)/\jc g f.slots σ.loc m:=by
 obtain ⟨ht,hf,m,u,N,x1,x2,x3,x4,x5,x6,x7,hI⟩:=h
 have hL:s.heap.get? L=some o:=ht (L,o) (.tail _ (.head _))
 have ha:s.heap.get? a=some og:=ht (a,og) (.head _)
 have ne:a≠L:=λe=>by
  refine qA hd λvs hd=>?_
  refine qB hn λes ep J oo=>?_
  rw [e,hL] at ha;obtain rfl:=Wc.inj ha
  rw [J] at hd;cases hd
 have I:Lay f.prot ((L,o)::(u++N)) s.heap:=by
  refine ⟨?_,λq hq=>?_,λq hq=>?_,x3.stays,x3.big,λq hq=>?_⟩
  ·rw [yH,Wd];exact qa (hI (L,o) (.tail _ (.head _))) x3.nodup
  ·rcases yy.mp hq with rfl|hq
   ·exact hL
   ·exact x3.there q hq
  ·rcases yy.mp hq with rfl|hq
   ·exact hf (L,o) (.tail _ (.head _))
   ·exact x3.fresh q hq
  ·rcases yy.mp hq with rfl|hq
   ·exact hl
   ·exact x3.low q hq
 refine qc (I.hide) λsub C=>?_
 refine Qi _ m sub (BL _ ha λhm=>?_) (λloc F=>(wj mG ((L,o)::u) N (.cons (qa rfl hn) x1) x2 C F x5 x6 x7)) x4
 rw [yH,yy] at hm
 refine Or.elim hm (λe=>?_) λhm=>?_
 ·exact ne e
 ·exact hI (a,og) (.head _) hm
theorem qF.genOut (sub: ∀b x,f.prot.get? b=some x->p.get? b=some x) (big: ∃b o,WV<=b/\f.prot.get? b=some o) (ha:p.get? a=some og) (I:f.prot.get? a=none) (C:jc g f.slots σ.loc m) (h:Rep g (Mine.Internal.genFx f env L slots p m) ⟨loc,H⟩ s):
  ∃o' u,Zh o' u/\jc g slots loc u/\qF g f [(a,og),(L,o')] ⟨σ.loc,H⟩ s:=by
 refine jk h λu J N x1 x2 x3 x4 x5 x6 x7=>?_
 (refine qk x1 λz7 r z8 z9 F=>?_;clear x1;obtain ⟨L',o'⟩:=z7;subst z8;obtain ⟨e,hn⟩:=z9)
 cases e
 have fr:p.get? L=none:=x3.fresh (L,o') (.head _)
 have nd:=x3.nodup
 rw [B4,yH,Wd] at nd
 refine qe o' u hn x4 ⟨λq hq=>?_,λq hq=>?_,m,r,N,F,x2,(x3.sub (.drop (Sub.refl _))).widen sub big,C,x5,x6,x7,λq hq hm=>?_⟩
 ·rcases yy.mp hq with rfl|hq
  ·exact x3.stays _ _ ha
  ·rw [yN.mp hq];exact x3.there _ (.head _)
 ·rcases yy.mp hq with rfl|hq
  ·exact I
  ·rw [yN.mp hq];exact jY sub _ fr
 ·rcases yy.mp hq with rfl|hq
  ·refine qf (yD.mp hm) λt ht e=>?_
   have:=x3.fresh t (.tail _ ht)
   rw [e] at this
   rw [show (Mine.Internal.genFx f env L slots p m).prot=p from rfl,ha] at this;cases this
  ·rw [yN.mp hq] at hm;exact nd.1 hm
theorem Rep.genEnd (sub: ∀b x,f.prot.get? b=some x->p.get? b=some x) (big: ∃b o,WV<=b/\f.prot.get? b=some o) (u:jc g f.slots σ.loc m) (h:Rep g (Mine.Internal.genFx f env L slots p m) ⟨loc,H⟩ s):Rep g f ⟨σ.loc,H⟩ s:=by
 refine jk h λJ I N x1 x2 x3 x4 x5 x6 x7=>?_
 (refine qk x1 λq r C oo F=>?_;clear x1;subst C)
 exact wj m r N F x2 ((x3.sub (.drop (Sub.refl _))).widen sub big) u x5 x6 x7
theorem zF.genEnd (sub: ∀b x,f.prot.get? b=some x->p.get? b=some x) (big: ∃b o,WV<=b/\f.prot.get? b=some o) (u:jc g f.slots σ.loc m) (h:zF g (Mine.Internal.genFx f env L slots p m) ⟨loc,H⟩ s e cls):zF g f ⟨σ.loc,H⟩ s e cls:=by
 refine xB h λJ I N x1 x2 x3 x4 x5 x=>?_
 (refine qk x1 λq r C oo F=>?_;clear x1;subst C)
 exact xI m r N F x2 ((x3.sub (.drop (Sub.refl _))).widen sub big) u x5 (QQ.re (λb hb=>(qa (jY sub _ hb.1) (λhm=>hb.2 (.tail _ hm)))) (λb hb=>(yI hb).elim) x)
end
end
noncomputable section
open PySem.W.X (SegX)
section
variable {prog:DU} {w:DV} {A:y9} {c:Code} {fs:List Frame} {s:yF} {P:End->yF->Prop} {env:Env} {K:Flow->Sem PySem.Fin} {H:yr->Sem PySem.Fin} {gd:Bool->Bool} {lv:List yr->List yr}
theorem xd {m:Sem α} {K:α->Sem PySem.Fin} (h:yP (Wf prog w) (A.over c fs) m (λa s'=>SegX (Wf prog w) A c (K a) fs s' P) (λx s'=>SegX (Wf prog w) A c (H x) fs s' P) s):
  SegX (Wf prog w) A c (m.wrap K H gd lv) fs s P:=by
 rintro Γ p rfl hΓ
 obtain ⟨e,s',hr,hq⟩:=runs_wrap_of_wp (Φ:=λe s'=>e.quiet=true/\P e s') K H gd lv m (h (Γ.over fs) p (hΓ.over fs)) (λa p' s' h'=>h' Γ p' rfl hΓ) (λx p' s' h'=>h' Γ p' rfl hΓ)
 exact qU e s' hr hq
theorem zR (m:Sem α) (k:α->Sem β) (K:β->Sem γ) (H:yr->Sem γ) (gd:Bool->Bool) (lv:List yr->List yr):(m>>=k).wrap K H gd lv=m.wrap (λa=>(k a).wrap K H gd lv) H gd lv:=by
 rw [Sem.bind_eq_wrap',Sem.wrap_wrap];rfl
theorem Yq (h:SegX (Wf prog w) A c (k ()) fs s P):SegX (Wf prog w) A c (.at p k) fs s P:=
 xd (m:=standAt p) (K:=k) (H:= .raise) (gd:=id) (lv:=id) (Bh h)
theorem Y9 (h:SegX (Wf prog w) A c (k ()) fs s P):SegX (Wf prog w) A c (.point l k) fs s P:=
 xd (m:=point) (K:=k) (H:= .raise) (gd:=id) (lv:=λoo=>l) (DA h)
theorem J8 (u:splitAtGen fs=none) (hg:g=false) (C:fs.any Frame.guarded=false) (x: ∀p,P (.susp v false l k c p fs) s):SegX (Wf prog w) A c (.yield v g l k) fs s P:=by
 subst hg;exact X.s_yield prog w A c fs P s v l k u C x
theorem Zm {st:Stmt} (h:SegX (Wf prog w) A c ((exec st env).wrap (λf=>match f with| .next=>(Dd g env).wrap K H gd lv|f=>K f) H gd lv) fs s P):SegX (Wf prog w) A c ((Dd (st::g) env).wrap K H gd lv) fs s P:=by
 rw [execs_cons_wrap];exact h
theorem ym (h:yP (Wf prog w) (A.over c fs) (FL t env (eval t env)) (λv s'=>SegX (Wf prog w) A c ((Dd (if v=true then a else b) env).wrap K H gd lv) fs s' P) (λx s'=>SegX (Wf prog w) A c (H x) fs s' P) s):
  SegX (Wf prog w) A c ((exec (.If t a b p) env).wrap K H gd lv) fs s P:=by
 rw [arm_exec_If,zR]
 refine xd (Bh ?_)
 rw [zR]
 refine xd (yK h (λv s' h'=>?_) λoo oo h'=>h')
 cases v<;>exact h'
theorem Yx (C:splitAtGen fs=none) (F:fs.any Frame.guarded=false) (u:gd false=false) (hco:env.scope.isCoroutine=false) (hi:Bm env=false)
  (h:yP (Wf prog w) (A.over c fs) (eval e env) (λv s'=>∀l k p',(∀A' g P',SegX (Wf prog w) A' c (K .next) fs g P'->SegX (Wf prog w) A' c (k (.send .none)) fs g P')->P (.susp v false l k c p' fs) s') (λx s'=>SegX (Wf prog w) A c (H x) fs s' P) s):
  SegX (Wf prog w) A c ((exec (.Expr (.Yield (some e) yp) p) env).wrap K H gd lv) fs s P:=by
 have hy: ∀v,yieldOut env v=yieldValue v:=λv=>by simp only [yieldOut,hco,FT,if_false]
 rw [PySem.exec_Expr env _ p hi rfl]
 show SegX (Wf prog w) A c (.at p λoo=>((eval e env>>=λv=>(standAt yp>>=λoo=>yieldOut env v))>>=λx=>
  dropValue (.Yield (some e) yp) p x).wrap K H gd lv) fs s P
 simp only [hy]
 refine Yq ?_
 rw [zR,zR]
 refine xd (yK h (λv s' h'=>?_) λoo oo x=>x)
 refine Yq (J8 C u F λp'=>h' _ _ _ λA' g P' z=>z)
end
section
variable {prog:DU} {w:DV} {A:y9} {fs:List Frame} {s:yF} {P:End->yF->Prop} {env:Env}
noncomputable abbrev ur (t:Expr) (b o:List Stmt) (env:Env):Flow->Sem PySem.Fin:=λf=>match f with
 | .next| .cont=> .pure (.again (.whileLoop t b o env))
 | .brk=> .pure (.done .next)
 | .ret v=> .pure (.done (.ret v))
noncomputable abbrev Qj (env : Env) : yr -> Sem PySem.Fin := λe => (do BE e env; BW e : Sem Unit).wrap (λ_ => .raise e) .raise id id
theorem vy (h : yP (Wf prog w) (A.over (.whileLoop t b o env) fs) (FL t env (eval t env)) (λv s' =>
        if v = true then SegX (Wf prog w) A (.whileLoop t b o env) ((Dd b env).wrap (ur t b o env) (Qj env) id id) fs s' P
        else SegX (Wf prog w) A (.whileLoop t b o env) ((Dd o env).wrap (λf => .pure (.done f)) (Qj env) id id) fs s' P)
      (λx s' => SegX (Wf prog w) A (.whileLoop t b o env) (Qj env x) fs s' P) s) :
    SegX (Wf prog w) A (.whileLoop t b o env) (denote table (.whileLoop t b o env)) fs s P := by
  show SegX _ A _ ((whileTurn t b o env).onRaise (λx => do BE x env; BW x)) fs s P
  unfold whileTurn
  rw [Sem.onRaise_eq_wrap, zR]
  refine xd (yK h (λv s' hb =>?_) λx s' hx =>?_)
  · cases v with
    | true =>
      rw [if_pos rfl] at hb
      show SegX _ A _ (Sem.wrap _ _ _ _ (if true = true then _ else _)) fs s' P
      rw [if_pos rfl, zR]
      rw [Sem.wrap_congr (Dd b env) _ _ (K' := ur t b o env) (H' := Qj env) (λf => by cases f <;> rfl) (λe => by first | exact Sem.bind_eq_wrap _ _ | (show (do BE e env; BW e : Sem Unit).bind (λoo => .raise e) = _; rw [Sem.bind_eq_wrap]))]
      exact hb
    | false =>
      rw [if_neg WY] at hb
      show SegX _ A _ (Sem.wrap _ _ _ _ (if false = true then _ else _)) fs s' P
      rw [if_neg WY, zR]
      rw [Sem.wrap_congr (Dd o env) _ _ (K' := λf => (.pure (.done f) : Sem PySem.Fin)) (H' := Qj env) (λf => by rfl) (λe => by first | exact Sem.bind_eq_wrap _ _ | (show (do BE e env; BW e : Sem Unit).bind (λoo => .raise e) = _; rw [Sem.bind_eq_wrap]))]
      exact hb
  · first
      | (rw [<- Sem.bind_eq_wrap] at hx; exact hx)
      | (show SegX _ A _ ((do BE x env; BW x : Sem Unit).bind λoo => .raise x) fs s' P; rw [Sem.bind_eq_wrap]; exact hx)
noncomputable abbrev Xz:Flow->Sem PySem.Fin:=λf=> .pure (.done (.ret (match f with| .ret v=>v|_=> .none)))
noncomputable abbrev w0 (env:Env):yr->Sem PySem.Fin:=λe=>(FE env e).wrap (λ_=> .raise e) .raise id id
theorem vQ (h:SegX (Wf prog w) A (.func b env) ((Dd b env).wrap Xz (w0 env) id id) fs s P):SegX (Wf prog w) A (.func b env) (denote table (.func b env)) fs s P:=by
 show SegX _ A _ (.point [] λoo=>((Dd b env).onRaise (FE env))>>=_) fs s P
 refine Y9 ?_
 rw [Sem.onRaise_eq_wrap,Sem.bind_eq_wrap',Sem.wrap_wrap]
 rw [Sem.wrap_congr (Dd b env) _ _ (K':=Xz) (H':=w0 env) (λf=>by cases f<;>rfl) (λe=>by rw [Sem.bind_eq_wrap,Sem.wrap_wrap];rfl)]
 exact h
end
end
noncomputable section
open PySem.W.X (SegX)
section
variable {prog:DU} {w:DV} {A:y9} {c:Code} {fs:List Frame} {s:yF} {P:End->yF->Prop} {env:Env} {K:Flow->Sem PySem.Fin} {H:yr->Sem PySem.Fin} {gd:Bool->Bool} {lv:List yr->List yr}
noncomputable abbrev U2 (env : Env) (K : Flow -> Sem PySem.Fin) (H : yr -> Sem PySem.Fin) (gd : Bool -> Bool) (lv : List yr -> List yr) : Result -> Sem PySem.Fin := λr => ((match r with | .ok f => (.pure f : Sem Flow) | .error e => .raise e).onRaise λ(x : yr) => do
  if (<- field x 1) == Value.none then unsupported "frame.own-activation:exception-without-traceback"
  FM x env.frame).wrap K H gd lv
theorem U9 (h: ∀q,SegX (Wf prog w) A (.whileLoop t b o env) (denote table (.whileLoop t b o env)) (.ret (U2 env K H gd lv) none (gd false) (lv []) c q []::fs) s P):
  SegX (Wf prog w) A c ((exec (.While t b o p) env).wrap K H gd lv) fs s P:=Yq (X.s_call prog w A c fs P s _ none (gd false) (lv []) _ h)
theorem XW (x:SegX (Wf prog w) A c₁ (k r) fs s P):SegX (Wf prog w) A c (leafOf r) (.ret k hd g l c₁ p₁ []::fs) s P:=
 X.s_pop prog w A c fs P s r _ rfl k hd g l c₁ p₁ [] x
theorem Jm (x:P (.ret r) s):SegX (Wf prog w) A c (leafOf r) [] s P:=X.s_end prog w A c P s r _ rfl x
theorem XH (x:SegX (Wf prog w) A (.whileLoop t b o env) (denote table (.whileLoop t b o env)) fs s P):SegX (Wf prog w) A c (.pure (.again (.whileLoop t b o env))) fs s P:=
 X.s_again prog w A c fs P s _ rfl x
end
noncomputable abbrev w5 (b:List Stmt) (env:Env) (K:Flow->Sem PySem.Fin) (q:Pos):List Frame:=[.ret (U2 env K (w0 env) id id) none false [] (.func b env) q []]
section
variable {f:Fx} {n:Nat} {A:y9} {env:Env} {L:yu} {slots:List Nat} {p:W0} {m:Str->Option yr}
theorem AOk.genF (h:AOk f n A) (hh:f.hd=none):AOk (genFx f env L slots p m) (n+9) ((A.mark none).in1.over (.func b env) []):=by
 refine ⟨?_,?_,?_,?_,?_⟩
 ·show pushEnvs [env] (pushEnvs [] A.frames)=_
  rw [h.frames];rfl
 ·have:=h.units
  show A.units+1+3<=n+9
  exact (qq [.nl VA VB] (.nl (.a (.a VA KB) KD) (.a VB KJ)) rfl this)
 ·have:=h.depth
  show A.depth+0+1<=n+9
  exact (qq [.nl VA VB] (.nl (.a (.a VA KA) KB) (.a VB KJ)) rfl this)
 ·show A.handled=none
  rw [h.hd,hh]
 ·show HP [] (HP [] A.guards)=some []
  rw [h.guards];rfl
theorem AOk.genL (h:AOk f n A) (hh:f.hd=none) {K:Flow->Sem PySem.Fin}:AOk (genFx f env L slots p m) (n+9) ((A.mark none).in1.over (.whileLoop t b' o env) (w5 b env K q)):=by
 refine ⟨?_,?_,?_,?_,?_⟩
 ·show pushEnvs [] (pushEnvs [env] A.frames)=_
  rw [h.frames];rfl
 ·have:=h.units
  show A.units+1+3+0<=n+9
  exact (qq [.nl VA VB] (.nl (.a (.a (.a VA KB) KD) KA) (.a VB KJ)) rfl this)
 ·have:=h.depth
  show A.depth+1+0<=n+9
  exact (qq [.nl VA VB] (.nl (.a (.a VA KB) KA) (.a VB KJ)) rfl this)
 ·show A.handled=none
  rw [h.hd,hh]
 ·show HP [] (HP [] A.guards)=some []
  rw [h.guards];rfl
end
end
noncomputable section
open PySem.W.X (SegX)
structure YG where
 j:Nat
 H:List (yu × O)
 gens:Array Bc
noncomputable abbrev YQ:=YG->Fx->Fl->St->Prop
noncomputable abbrev YE:=YG->Fx->Ex->St->Prop
noncomputable abbrev YY:=YG->Fx->V->(YG->Fx->List (yu × O)->Prop)->St->Prop
structure YM (g:G) (env:Env) (N:Nm) (n:Nat) (c:Code) (fs:List Frame) (CX:YG->Fx->y9->(End->yF->Prop)->Prop):Prop where
 co:env.scope.isCoroutine=false
 it:Bm env=false
 noGen:splitAtGen fs=none
 noGuard:fs.any Frame.guarded=false
 ok: ∀gs f A P,CX gs f A P->FOk (g.gen gs.gens) f/\f.env=env/\f.nmOf g=N/\AOk f n (A.over c fs)
structure YK (g:G) (n:Nat) (c:Code) (fs:List Frame) (CX:YG->Fx->y9->(End->yF->Prop)->Prop) (K:Flow->Sem PySem.Fin) (Q:YQ):Prop where
 k: ∀gs f A P,CX gs f A P->∀fl v σ s,FR (g.gen gs.gens) fl v->Rep (g.gen gs.gens) f σ s->Q gs f fl σ->SegX g.M A c (K v) fs s P
structure YH (g:G) (n:Nat) (c:Code) (fs:List Frame) (CX:YG->Fx->y9->(End->yF->Prop)->Prop) (H:yr->Sem PySem.Fin) (E:YE) (Y:YY):Prop where
 h: ∀gs f A P,CX gs f A P->∀e s,EP (g.gen gs.gens) f (E gs f) e s->SegX g.M A c (H e) fs s P
 y: ∀gs f A P,CX gs f A P->∀x v R σ s,VR g x v->Rep (g.gen gs.gens) f σ s->Y gs f x R σ->∀l k p',(End.susp v false l k c p' fs).genState.bare=true->(∀gs' f' A' P' H' s'',gs'.j=gs.j+1->gs'.H=H'->CX gs' f' A' P'->R gs' f' H'->Rep (g.gen gs'.gens) f' ⟨σ.loc,H'⟩ s''->SegX g.M A' c (k (.send .none)) fs s'' P')->P (.susp v false l k c p' fs) s
structure YX where
 ast:Nm->Stmt
 chk:Nm->Bool
 wp:G->YG->Fx->Nat->YY->YQ->YE->St->Prop
 snd: ∀{g env N n c fs CX K H Q E Y mg mb},GOk g mg mb->YM g env N n c fs CX->chk N=true->YK g n c fs CX K Q->YH g n c fs CX H E Y->∀{gs f A P σ s},CX gs f A P->wp g gs f n Y Q E σ->Rep (g.gen gs.gens) f σ s->
  SegX g.M A c ((exec (ast N) env).wrap K H id id) fs s P
noncomputable def XJ (N:Nm) (l:List YX):List Stmt:=l.map (·.ast N)
noncomputable def v9 (N:Nm) (l:List YX):Bool:=l.all (·.chk N)
def wYs (g:G) (n:Nat):List YX->YG->Fx->YY->YQ->YE->St->Prop
 |[],gs,f,Y,Q,E,σ=>Q gs f .next σ
 |a::r,gs,f,Y,Q,E,σ=>a.wp g gs f n Y (λgs f fl σ=>match fl with| .next=>wYs g n r gs f Y Q E σ|fl=>Q gs f fl σ) E σ
section
variable {g:G} {env:Env} {N:Nm} {n:Nat} {c:Code} {fs:List Frame} {CX:YG->Fx->y9->(End->yF->Prop)->Prop} {H:yr->Sem PySem.Fin} {E:YE} {Y:YY} {mg mb:Str->Option yr}
theorem sYs (gk:GOk g mg mb) (M:YM g env N n c fs CX) (hh:YH g n c fs CX H E Y) (l:List YX):v9 N l=true->∀{K Q},YK g n c fs CX K Q->∀{gs f A P σ s},CX gs f A P->wYs g n l gs f Y Q E σ->Rep (g.gen gs.gens) f σ s->
  SegX g.M A c ((Dd (XJ N l) env).wrap K H id id) fs s P:=by
 induction l with
 |nil=>exact λoo K Q hk gs f A P σ s cx w hs=>hk.k _ _ _ _ cx .next .next σ s FR.next hs w
 |cons a r ih=>
  intro hc K Q hk gs f A P σ s cx w hs
  show SegX g.M A c ((Dd (a.ast N::XJ N r) env).wrap K H id id) fs s P
  refine Zm ?_
  refine a.snd gk M (qh hc).1 ⟨λgs f A P cx fl v σ s hf hs q=>?_⟩ hh cx w hs
  cases fl with
  |next=>cases hf;exact ih (qh hc).2 hk cx q hs
  |brk=>cases hf;exact hk.k _ _ _ _ cx .brk .brk σ s rfl hs q
  |cont=>cases hf;exact hk.k _ _ _ _ cx .cont .cont σ s rfl hs q
  |ret x=>(refine qf hf λu C hu=>?_;clear hf;subst C);exact hk.k _ _ _ _ cx (.ret x) (.ret u) σ s (qj u rfl hu) hs q
end
namespace Y
@[reducible] noncomputable def s (a:SX):YX:=⟨a.ast,a.chk,λg gs f n Y Q E σ=>a.wp (g.gen gs.gens) f n (Q gs f) (E gs f) σ,
 λ{g env N n c fs CX K H Q E Y mg mb} gk M hc hk hh {gs f A P σ s} cx w hs=>by
  (refine qZ (M.ok _ _ _ _ cx) λok e z13=>?_;refine qc z13 λeN hA=>?_)
  subst e;subst eN
  refine xd (yK (a.snd (g:=g.gen gs.gens) gk.gen ok hc w _ s hA hs) (λv s' h=>?_) λe s' h=>hh.h _ _ _ _ cx e s' h)
  refine qk h λfl σ' hf hs' q=>?_
  exact hk.k _ _ _ _ cx fl v σ' s' hf hs' q⟩
@[reducible] noncomputable def y (e:EX) (yp p:Nat):YX:=⟨λN=> .Expr (.Yield (some (e.ast N)) (P yp)) (P p),e.chk,λg gs f n Y Q E σ=>e.wp (g.gen gs.gens) f n (λx σ'=>Y gs f x (λgs' f' H'=>Q gs' f' .next ⟨σ'.loc,H'⟩) σ') (E gs f) σ,
 λ{g env N n c fs CX K H Q E Y mg mb} gk M hc hk hh {gs f A P σ s} cx w hs=>by
  (refine qZ (M.ok _ _ _ _ cx) λok e0 z14=>?_;refine qc z14 λeN hA=>?_)
  refine Yx M.noGen M.noGuard rfl M.co M.it ?_
  subst e0;subst eN
  refine yK (e.snd (g:=g.gen gs.gens) gk.gen ok hc w _ s hA hs) (λv s' h l k p' hgo=>?_) λe s' h=>hh.h _ _ _ _ cx e s' h
  refine qk h λx σ' hv hs' q=>?_
  exact hh.y _ _ _ _ cx x v _ σ' s' (by rw [xH] at hv;exact hv) hs' q l k p' (End.bare_of_quiet (by simp [End.quiet,M.noGuard])) λgs' f' A' P' H' s'' oo oo cx' r hs''=>hgo _ _ _ (hk.k _ _ _ _ cx' .next .next _ s'' FR.next hs'' r)⟩
@[reducible] noncomputable def ite (t:EX) (a b:List YX) (p:Nat):YX:=⟨λN=> .If (t.ast N) (XJ N a) (XJ N b) (P p),λN=>t.chk N && v9 N a && v9 N b,
 λg gs f n Y Q E σ=>t.wt (g.gen gs.gens) f n (λv σ=>(v=true->wYs g n a gs f Y Q E σ)/\(v=false->wYs g n b gs f Y Q E σ)) (E gs f) σ,
 λ{g env N n c fs CX K H Q E Y mg mb} gk M hc hk hh {gs f A P σ s} cx w hs=>by
  refine qc (qh hc) λh1 h3=>?_
  refine qc (qh h1) λh1 h2=>?_
  have z:=M.ok _ _ _ _ cx
  (refine qZ z λok e0 z15=>?_;refine qc z15 λeN hA=>?_)
  refine ym ?_
  have w':=t.sndt (g:=g.gen gs.gens) gk.gen ok (by rw [show f.nmOf (g.gen gs.gens)=N from eN];exact h1) w _ s hA hs
  rw [show f.nmOf (g.gen gs.gens)=N from eN,e0] at w'
  refine yK w' (λv s' h=>?_) λe s' h=>hh.h _ _ _ _ cx e s' h
  (refine qk h λx σ' z16 hs' q=>?_;clear h;subst z16)
  cases x with
  |true=>exact sYs gk M hh a h2 hk cx (q.1 rfl) hs'
  |false=>exact sYs gk M hh b h3 hk cx (q.2 rfl) hs'⟩
end Y
end
noncomputable section
open PySem.W.X (SegX)
structure GD where
 pre:List SX
 c:EX
 ys:List YX
 p:Nat
noncomputable def GD.ast (N:Nm) (d:GD):List Stmt:=xm N d.pre++[.While (d.c.ast N) (XJ N d.ys) [] (P d.p)]
noncomputable def GD.chk (N:Nm) (d:GD):Bool:=xP N d.pre && d.c.chk N && v9 N d.ys
noncomputable abbrev GD.loop (N:Nm) (d:GD) (env:Env):Code:= .whileLoop (d.c.ast N) (XJ N d.ys) [] env
noncomputable abbrev vR (env:Env):Flow->Sem PySem.Fin:=λf=>match f with| .next=>(Dd [] env).wrap Xz (w0 env) id id|f=>Xz f
structure GX1 (g:G) (env:Env) (N:Nm) (n:Nat) (d:GD) (len:Nat) (fine:Bool) (X:Ex->Prop) (gs:YG) (f:Fx) (A:y9) (P:End->yF->Prop):Prop where
 ok:FOk (g.gen gs.gens) f
 he:f.env=env
 hn:f.nmOf g=N
 hd:f.hd=none
 hf:AOk f n (A.over (.func (d.ast N) env) [])
 hl: ∀q,AOk f n (A.over (d.loop N env) (w5 (d.ast N) env (vR env) q))
 fin:fine=true->gs.j=len->∀σ s,Sub gs.H σ.H->Rep (g.gen gs.gens) f σ s->P (.ret (.ok (.ret .none))) s
 exn:fine=false->gs.j=len->∀x σ s,X x->Sub gs.H σ.H->zF (g.gen gs.gens) f σ s x.addr x.cls->P (.ret (.error (.ref x.addr))) s
def CXr (g:G) (env:Env) (N:Nm) (n:Nat) (d:GD) (len:Nat) (fine:Bool) (X:Ex->Prop) (val:Nat->V->Prop) (Need:List (yu × O)->Prop):Nat->YG->Fx->y9->(End->yF->Prop)->Prop
 |0,gs,f,A,P=>GX1 g env N n d len fine X gs f A P
 |m+1,gs,f,A,P=>GX1 g env N n d len fine X gs f A P/\∀x v σ s,val gs.j x->Sub gs.H σ.H->VR g x v->Rep (g.gen gs.gens) f σ s->∀l k c fs p',(End.susp v false l k c p' fs).genState.bare=true->
   (∀gs' f' A' P' H' s'',gs'.j=gs.j+1->gs'.H=H'->CXr g env N n d len fine X val Need m gs' f' A' P'->Need H'->Rep (g.gen gs'.gens) f' ⟨σ.loc,H'⟩ s''->SegX g.M A' c (k (.send .none)) fs s'' P')->P (.susp v false l k c p' fs) s
section
variable {g:G} {env:Env} {N:Nm} {n:Nat} {d:GD} {len:Nat} {fine:Bool} {X:Ex->Prop} {val:Nat->V->Prop} {Need:List (yu × O)->Prop} {mg mb:Str->Option yr} {gs:YG} {f:Fx} {A:y9} {P:End->yF->Prop} {m:Nat}
theorem CXr.one (h:CXr g env N n d len fine X val Need m gs f A P):GX1 g env N n d len fine X gs f A P:=by cases m with|zero=>exact h|succ m=>exact h.1
abbrev CXa (g:G) (env:Env) (N:Nm) (n:Nat) (d:GD) (len:Nat) (fine:Bool) (X:Ex->Prop) (val:Nat->V->Prop) (Need:List (yu × O)->Prop):YG->Fx->y9->(End->yF->Prop)->Prop:=
 λgs f A P=>gs.j<=len/\CXr g env N n d len fine X val Need (len - gs.j) gs f A P
noncomputable abbrev Yg (g:G) (len:Nat) (val:Nat->V->Prop) (Need:List (yu × O)->Prop):YY:=λgs f x R σ=>gs.j<len/\val gs.j x/\Sub gs.H σ.H/\∀gs' f' H',gs'.j=gs.j+1->gs'.H=H'->FOk (g.gen gs'.gens) f'->f'.hd=none->Need H'->R gs' f' H'
noncomputable abbrev Eg (len:Nat) (fine:Bool) (X:Ex->Prop):YE:=λgs f x σ=>fine=false/\gs.j=len/\X x/\Sub gs.H σ.H
noncomputable abbrev Qg (len:Nat) (fine:Bool) (Inv:YG->St->Prop) (j:Nat):YQ:=λgs f fl σ=>match fl with
 | .next=>j<gs.j/\Inv gs σ
 | .cont=>j<gs.j/\Inv gs σ
 | .brk=>fine=true/\gs.j=len/\Sub gs.H σ.H
 | .ret x=>x= .none/\fine=true/\gs.j=len/\Sub gs.H σ.H
theorem JE (ok:FOk g f) (he:f.env=env) (hA:AOk f n' (A.over (.func b env) [])) (hx:zF g f σ s e cls) (k: ∀s',zF g f σ s' e cls->P (.ret (.error (.ref e))) s'):
  SegX g.M A (.func b env) (w0 env (.ref e)) [] s P:=by
 subst he
 refine xd ?_
 unfold FE
 exact yo (jt ok hA.frames hx λs₂ C=>xo ok C.x λs₃ u oo=>Jm (r:= .error (.ref e)) (k s₃ u))
theorem vE {K : Flow -> Sem PySem.Fin} (ok : FOk g f) (he : f.env = env) (hA : AOk f n' (A.over (.func b env) [])) (hA' : AOk f n' (A.over (.whileLoop t b' [] env) (w5 b env K q))) (hx : zF g f σ s e cls) (k : ∀ s', zF g f σ s' e cls -> P (.ret (.error (.ref e))) s') :
    SegX g.M A (.whileLoop t b' [] env) (Qj env (.ref e)) (w5 b env K q) s P := by
  subst he
  refine xd (yo (jt ok hA'.frames hx λs₂ hx₂ => wpAny_theTreesLotGoes ?_))
  refine XW (r := .error (.ref e)) ?_
  show SegX g.M A _ (Sem.wrap K (w0 f.env) id id ((do if (<- field (.ref e) 1) == Value.none then unsupported "frame.own-activation:exception-without-traceback"
                                                         FM (.ref e) f.env.frame : Sem Unit) >>= λoo => (.raise (.ref e) : Sem Flow))) [] s₂ P
  rw [zR]
  refine kT (hx₂.field) λoe vs T he hd h1 =>?_
  refine xd (yo (Bn he hd h1 ?_))
  rw [if_neg (by simp)]
  exact xo ok hx₂.x λs₃ hx₃ oo => JE ok rfl hA hx₃ k
theorem Yt (x:GX1 g env N n d len fine X gs f A P) (hf:fine=true) (hj:gs.j=len) (hz:Sub gs.H σ.H) (hs:Rep (g.gen gs.gens) f σ s):SegX g.M A c (leafOf (.ok .next)) (w5 (d.ast N) env (vR env) q) s P:=
 XW (r:= .ok .next) (Jm (r:= .ok (.ret .none)) (x.fin hf hj σ s hz hs))
theorem vk (x:GX1 g env N n d len fine X gs f A P) (h:EP (g.gen gs.gens) f (Eg len fine X gs f) e s):SegX g.M A (d.loop N env) (Qj env e) (w5 (d.ast N) env (vR env) q) s P:=by
 (refine Jn h λy σ u hx h1 h2 h3 h4=>?_;clear h;subst u)
 exact vE (g:=g.gen gs.gens) x.ok x.he x.hf (x.hl q) hx λs' C=>x.exn h1 h2 y σ s' h3 h4 C
theorem UR (gk:GOk g mg mb) (hco:env.scope.isCoroutine=false) (hi:Bm env=false) (Z:d.chk N=true) (Inv:YG->St->Prop)
  (I: ∀gs f σ,FOk (g.gen gs.gens) f->f.hd=none->gs.j<=len->Inv gs σ->d.c.wt (g.gen gs.gens) f n (λv σ=>(v=true->wYs g n d.ys gs f (Yg g len val Need) (Qg len fine Inv gs.j) (Eg len fine X) σ)/\(v=false->fine=true/\gs.j=len/\Sub gs.H σ.H)) (Eg len fine X gs f) σ):
  ∀m gs f A P q σ s,len - gs.j=m->CXa g env N n d len fine X val Need gs f A P->Inv gs σ->Rep (g.gen gs.gens) f σ s->SegX g.M A (d.loop N env) (denote table (d.loop N env)) (w5 (d.ast N) env (vR env) q) s P:=by
 refine qc (qh Z) λc1 c3=>?_
 refine qc (qh c1) λc1 c2=>?_
 intro m
 induction m using Nat.strongRecOn with
 |ind m ih=>
  intro gs f A P q σ s hm cx hv hs
  have x1:=cx.2.one
  have w:=d.c.sndt (g:=g.gen gs.gens) gk.gen x1.ok (by rw [show f.nmOf (g.gen gs.gens)=N from x1.hn];exact c2) (I gs f σ x1.ok x1.hd cx.1 hv) _ s (x1.hl q) hs
  rw [show f.nmOf (g.gen gs.gens)=N from x1.hn,x1.he] at w
  refine vy (yK w (λv s' h=>?_) λe s' h=>vk x1 h)
  (refine xW h λx σ' a4 hs' q1 q2=>?_;clear h;subst a4)
  cases x with
  |false=>
   rw [if_neg WY]
   refine qZ (q2 rfl) λh1 h2 h3=>?_
   exact Yt x1 h1 h2 h3 hs'
  |true=>
   rw [if_pos rfl]
   refine sYs (CX:=CXa g env N n d len fine X val Need) gk ⟨hco,hi,rfl,rfl,λgs f A P cx=>(zQ cx.2.one.ok cx.2.one.he cx.2.one.hn (cx.2.one.hl q))⟩ ⟨λgs f A P cx e s h=>vk cx.2.one h,λgs f A P cx x v R σ s hv hs hY l k p' hb a6=>?_⟩ d.ys c3 ⟨λC f' A' P' F fl v σ s hf hs hq=>?_⟩ cx (q1 rfl) hs'
   ·(refine qZ hY λy1 y2 a3=>?_;refine qc a3 λy4 y3=>?_)
    have c:=cx.2
    obtain ⟨m',e⟩: ∃m',len - gs.j=m'+1:=(qx (len - gs.j - 1) (by exact (zH [.ne (.a VA KB) VB] (.ne VB (.a VA KB)) [1,1] [1,-1] rfl (yn (qQ [.nt VA VB,.ne (.a VC VA) VB] (.nl KB VC) [1,1,-1] rfl y1 (yn (yV y1)))))))
    rw [e] at c
    exact c.2 x v σ s y2 y4 hv hs l k _ _ p' hb λC f' A' P' H' a5 e1 e2 c' hN J=>a6 C f' A' P' H' a5 e1 e2 (qa (qR [.nt VA VB,.ne VC (.a VA KB)] (.nl VC VB) rfl y1 e1) (by rw [show len - C.j=m' by exact (LA [_,_,_,_,_,_] [] [.ne VA (.a VB KB),.ne VC (.a VD KB),.ne (.a VA VD) VE,.ne (.a VF VC) VE] (.ne VF VB) [1,-1,1,1,-1] [1,1,-1,-1,1] rfl e e1 (yn (yV y1)) (yn (qR [.nt VA VB,.ne VC (.a VA KB)] (.nl VC VB) rfl y1 e1)))];exact c')) (y3 C f' H' e1 e2 c'.one.ok c'.one.hd hN) J
   ·have x2:=F.2.one
    cases fl with
    |next=>cases hf;exact XH (ih (len - C.j) (by have:=hq.1;have:=F.1;exact (LB [_,_,_,_,_,_] [] [.ne VA VB,.nt VC VD,.ne (.a VA VC) VE,.ne (.a VF VD) VE] (.nt VF VB) [1,1,1,-1,1] rfl hm (by assumption) (yn (qR [.nl VA VB,.nt VC VA] (.nl VC VB) rfl this (by assumption))) (yn this))) C f' A' P' q σ s rfl F hq.2 hs)
    |cont=>cases hf;exact XH (ih (len - C.j) (by have:=hq.1;have:=F.1;exact (LB [_,_,_,_,_,_] [] [.ne VA VB,.nt VC VD,.ne (.a VA VC) VE,.ne (.a VF VD) VE] (.nt VF VB) [1,1,1,-1,1] rfl hm (by assumption) (yn (qR [.nl VA VB,.nt VC VA] (.nl VC VB) rfl this (by assumption))) (yn this))) C f' A' P' q σ s rfl F hq.2 hs)
    |brk=>cases hf;exact Yt x2 hq.1 hq.2.1 hq.2.2 hs
    |ret y=>
     (refine qZ hq λa2 h1 a1=>?_;refine qc a1 λh2 h3=>?_;clear hq;subst a2)
     (refine qf hf λu a0 hu=>?_;clear hf;subst a0)
     obtain rfl:=hu
     exact XW (r:= .ok (.ret .none)) (Jm (r:= .ok (.ret .none)) (x2.fin h1 h2 σ s h3 hs))
theorem j6 (gk:GOk g mg mb) (hco:env.scope.isCoroutine=false) (hi:Bm env=false) (u:d.chk N=true) (Inv:YG->St->Prop)
  (C: ∀gs f σ,FOk (g.gen gs.gens) f->f.hd=none->gs.j<=len->Inv gs σ->d.c.wt (g.gen gs.gens) f n (λv σ=>(v=true->wYs g n d.ys gs f (Yg g len val Need) (Qg len fine Inv gs.j) (Eg len fine X) σ)/\(v=false->fine=true/\gs.j=len/\Sub gs.H σ.H)) (Eg len fine X gs f) σ)
   (cx:CXa g env N n d len fine X val Need gs f A P) (hs:Rep (g.gen gs.gens) f σ s) (w:wSs (g.gen gs.gens) f n d.pre (λfl σ=>fl= .next/\Inv gs σ) (Eg len fine X gs f) σ):
  SegX g.M A (.func (d.ast N) env) (denote table (.func (d.ast N) env)) [] s P:=by
 refine qc (qh u) λc1 c3=>?_
 refine qc (qh c1) λc1 c2=>?_
 have x1:=cx.2.one
 have F: ∀l:List SX,xP N l=true->∀σ s,Rep (g.gen gs.gens) f σ s->wSs (g.gen gs.gens) f n l (λfl σ=>fl= .next/\Inv gs σ) (Eg len fine X gs f) σ->
   SegX g.M A (.func (d.ast N) env) ((Dd (xm N l++[.While (d.c.ast N) (XJ N d.ys) [] (Mine.Internal.P d.p)]) env).wrap Xz (w0 env) id id) [] s P:=by
  intro l
  induction l with
  |nil=>
   intro _ σ s hs w
   exact Zm (U9 λq=>UR gk hco hi u Inv C _ gs f A P q σ s rfl cx w.2 hs)
  |cons a r ih=>
   intro hc σ s hs w
   refine Zm ?_
   have z:=a.snd (g:=g.gen gs.gens) gk.gen x1.ok (by rw [show f.nmOf (g.gen gs.gens)=N from x1.hn];exact (qh hc).1) w _ s x1.hf hs
   rw [show f.nmOf (g.gen gs.gens)=N from x1.hn,x1.he] at z
   refine xd (yK z (λv s' h=>?_) λe s' h=>?_)
   ·refine qk h λfl σ' hf hs' q=>?_
    cases fl with
    |next=>cases hf;exact ih (qh hc).2 σ' s' hs' q
    |brk=>exact absurd q.1 (by nofun)
    |cont=>exact absurd q.1 (by nofun)
    |ret x=>exact absurd q.1 (by nofun)
   ·(refine Jn h λy σ I hx h1 h2 h3 h4=>?_;clear h;subst I)
    exact JE (g:=g.gen gs.gens) x1.ok x1.he x1.hf hx λs' J=>x1.exn h1 h2 y σ s' h3 h4 J
 exact vQ (F d.pre c1 σ s hs w)
end
end
noncomputable section
open PySem.W.X (SegX)
section
variable {g:G} {f:Fx} {σ:St} {s:yF} {k:Nat} {st:Bc}
theorem GX.set (h:GX a b) (hk:a.size<=k) (hb:st.bare=true):GX a (b.setIfInBounds k st):=⟨λi x e=>by
 have hi:i<a.size:=(Bq.mp e).1
 rw [B8 (by exact (λz0=>(qQ [.nl VA VB,.nt VC VA,.ne VB VC] .ff [0,1,1,1] rfl hk hi z0)))];exact h.1 i x e,λy hy=>by
 rw [Array.mem_iff_getElem?] at hy
 refine qA hy λi hi=>?_
 rw [Array.getElem?_setIfInBounds] at hi
 split at hi
 ·split at hi
  ·obtain rfl:=Wc.inj hi;exact hb
  ·cases hi
 ·exact h.2 y (Array.mem_of_getElem? hi)⟩
theorem Rep.setGen (h:Rep g f σ s) (hk:g.gens.size<=k) (hb:st.bare=true):Rep g f σ (s.setGen k st):=by
 refine jk h λm u N a b c d e1 e2 e3=>?_
 exact wj m u N a b c d (e1.set hk hb) e2 e3
theorem qF.setGen (h:qF g f hs σ s) (hk:g.gens.size<=k) (hb:st.bare=true):qF g f hs σ (s.setGen k st):=by
 obtain ⟨h1,h2,m,u,N,a,b,c,d,e1,e2,e3,e4⟩:=h
 exact ⟨h1,h2,m,u,N,a,b,c,d,e1.set hk hb,e2,e3,e4⟩
theorem zF.setGen (h:zF g f σ s e cls) (hk:g.gens.size<=k) (hb:st.bare=true):zF g f σ (s.setGen k st) e cls:=by
 (refine xB h λm C N a b c d u x=>?_;obtain ⟨e1,e2,e3⟩:=u)
 exact xI m C N a b c d (qy (e1.set hk hb) e2 e3) x
theorem zF.less (h:zF g f σ s e cls) (k:Sub H σ.H):zF g f ⟨σ.loc,H⟩ s e cls:=by
 refine xB h λm u N a b c d z x=>?_
 refine qf (b.sub k) λN' b' k'=>?_
 have kk:Sub (u++N') (u++N):=(Sub.refl u).append k'
 exact xI m u N' a b' (c.sub kk) d z (QQ.re (λa ha=>(qa ha.1 (λhm=>ha.2 (kk.map.mem hm)))) (λa ha=> .inl ha) x)
end
def gObj (g:G) (env:Env) (N:Nm) (n:Nat) (d:GD) (len:Nat) (fine:Bool) (X:Ex->Prop) (val:Nat->V->Prop) (Need:List (yu × O)->Prop) (a L:yu) (og:Obj) (slots:List Nat) (k j:Nat) (hs:List (yu × Obj)) (gens:Array Bc):Prop:=
 ∃o mG loc st c₀ t₀ fs₀,hs=[(a,og),(L,o)]/\Zh o mG/\jc g slots loc mG/\gens[k]? =some st/\Goes st c₀ t₀ fs₀/\
  ∀gs' f' A' P' H' s'',gs'.j=j->gs'.H=H'->CXa g env N n d len fine X val Need gs' f' A' P'->Need H'->Rep (g.gen gs'.gens) f' ⟨loc,H'⟩ s''->SegX g.M A' c₀ t₀ fs₀ s'' P'
section
variable {g:G} {f:Fx} {env:Env} {n:Nat} {d:GD} {len:Nat} {fine:Bool} {X:Ex->Prop} {val:Nat->V->Prop} {Need:List (yu × O)->Prop} {mg mb:Str->Option yr} {A:y9} {a L:yu} {og:Obj} {slots:List Nat} {k:Nat} {P:St->Prop} {nm qn:yr}
theorem JA (gk:GOk g mg mb) (ok:FOk g f) (hh:f.hd=none) (hA:AOk f n A) (hroom:n<W1) (C:kg g env L slots) (hlow:WV<L) (hog:og={cls:= .type "generator",data:= .fields #[.int k 0,nm,qn]}) (hk:g.gens.size<=k)
  (hX: ∀x,X x->subIn g.K x.cls (.type "StopIteration")=some false) (hN: ∀σ,P σ->Need σ.H):
  j8 g f a (A.mark none) len val (gObj g env ⟨g.tab,env.scope.names,slots⟩ (n+9) d len fine X val Need a L og slots k) P fine X where
 keep:=λj hs gs gs' h hx=>by
  (refine zc h λo mG loc z25=>?_;refine zc z25 λst c₀ t₀ z26=>?_;refine vL z26 λfs₀ h1 h2 h3 h4 h5=>?_)
  exact qW o mG loc (qW st c₀ t₀ (uY fs₀ h1 h2 h3 (hx.1 _ _ h4) h5))
 gen:=λs h=>by
  refine qB h λj hs h ht=>?_
  (refine zc h λo mG loc z27=>?_;refine wh z27 λst c₀ t₀ fs₀ h1 oo=>?_)
  exact qj og (ht (a,og) (by rw [h1];exact .head _)) (by rw [hog])
 item:=λj s σ hs hlt hob hi hP=>by
  (refine zc hob λo mG loc z29=>?_;refine zc z29 λst c₀ t₀ z30=>?_;refine e1a5 z30 λfs₀ z28 hn hloc hst hgo hrun=>?_;clear hob;subst z28)
  obtain ⟨p,m,sub,hpa,hrep,hlf⟩:=hi.genIn (slots:=slots) (env:=env) hlow (by rw [hog]) (qx _ (by rw [hog])) hn
  have big:=hi.toRep.big
  have gx:=hi.gx
  have hfa:=hi.free (a,og) (.head _)
  have hha:s.heap.get? a=some og:=hi.there (a,og) (.head _)
  have gx':GX g.gens (s.setGen k .running).gens:=gx.set hk rfl
  have hks:k<s.gens.size:=(Bq.mp hst).1
  have hrd:(A.mark none).handled=none:=hA.hd.trans hh
  refine Xu (c₀:=c₀) (t₀:=t₀) (fs₀:=fs₀) hrd (gk.nolimit.keeps λb x e=>hi.toRep.base ok b x e) (WJ hA.depth hroom) (xi og nm qn hha (by rw [hog]) (by rw [hog]) (by rw [hog])) hst hgo
   (hrun ⟨j,σ.H,(s.setGen k .running).gens⟩ (genFx f env L slots p m) _ _ σ.H _ rfl rfl (qa (yV hlt) ?_) (hN σ hP) ((hrep loc hloc).setGen hk rfl).gen)
  obtain ⟨m',e⟩: ∃m',len - j=m'+1:=(qx (len - j - 1) (by exact (zH [.ne (.a VA KB) VB] (.ne VB (.a VA KB)) [1,1] [1,-1] rfl (yn (qQ [.nt VA VB,.ne (.a VC VA) VB] (.nl KB VC) [1,1,-1] rfl hlt (yn (yV hlt)))))))
  show CXr _ _ _ _ _ _ _ _ _ _ (len - j) _ _ _ _
  rw [e]
  refine qa ⟨(ok.genFx C sub).gen,rfl,rfl,rfl,hA.genF hh,λq=>hA.genL hh,λoo q=>absurd (show j=len from q) (λz0=>(qM [.nt VA VB,.ne VA VB] .ff [0,1,-1] rfl hlt q)),λoo q=>absurd (show j=len from q) (λz0=>(qM [.nt VA VB,.ne VA VB] .ff [0,1,-1] rfl hlt q))⟩ (λx v σ₁ s₁ hval hsub hv hs₁ l k₁ c fs p' hbare hfut=>?_)
  have h1:=(hs₁.ungen gx').sub hsub
  refine qk (qF.genOut (og:=og) (σ:=σ) sub big hpa hfa hlf h1) λo' mG' hn' hloc' hi₁=>?_
  have hk1:s₁.gens[k]? =some .running:=hs₁.gx.1 _ _ (by show (s.gens.setIfInBounds k .running)[k]? =_;rw [D5,if_pos hks])
  have hk2:k<s₁.gens.size:=(Bq.mp hk1).1
  refine ji v x _ rfl hv hval (qW o' mG' σ₁.loc (qW ((End.susp v false l k₁ c p' fs).genState) c (k₁ (.send .none)) (vm fs rfl hn' hloc' ?_ (.inr (XP k₁ l p' _ rfl rfl)) (λgs' f' A' P' H' s'' e1 e2 cx' hN hs''=>hfut gs' f' A' P' H' s'' e1 e2 (by have:=cx'.2;rw [show len - gs'.j=m' by exact (LA [_,_,_,_,_,_] [] [.ne VA (.a VB KB),.ne VC (.a VD KB),.ne (.a VA VD) VE,.ne (.a VF VC) VE] (.ne VF VB) [1,-1,1,1,-1] [1,1,-1,-1,1] rfl e e1 (yn (yV hlt)) (yn (qR [.nt VA VB,.ne VC (.a VA KB)] (.nl VC VB) rfl hlt e1)))] at this;exact this) hN hs'')))) (hi₁.setGen hk hbare)
  show (s₁.gens.setIfInBounds k _)[k]? =_
  rw [D5,if_pos hk2]
 stop:=λs σ hs hob hi hP=>by
  (refine zc hob λo mG loc z32=>?_;refine zc z32 λst c₀ t₀ z33=>?_;refine e1a5 z33 λfs₀ z31 hn hloc hst hgo hrun=>?_;clear hob;subst z31)
  obtain ⟨p,m,sub,hpa,hrep,hlf⟩:=hi.genIn (slots:=slots) (env:=env) hlow (by rw [hog]) (qx _ (by rw [hog])) hn
  have big:=hi.toRep.big
  have hha:s.heap.get? a=some og:=hi.there (a,og) (.head _)
  have gx':GX g.gens (s.setGen k .running).gens:=hi.gx.set hk rfl
  have hrd:(A.mark none).handled=none:=hA.hd.trans hh
  refine Xu (c₀:=c₀) (t₀:=t₀) (fs₀:=fs₀) hrd (gk.nolimit.keeps λb x e=>hi.toRep.base ok b x e) (WJ hA.depth hroom) (xi og nm qn hha (by rw [hog]) (by rw [hog]) (by rw [hog])) hst hgo
   (hrun ⟨len,σ.H,(s.setGen k .running).gens⟩ (genFx f env L slots p m) _ _ σ.H _ rfl rfl (qa (yM _) ?_) (hN σ hP) ((hrep loc hloc).setGen hk rfl).gen)
  show CXr _ _ _ _ _ _ _ _ _ _ (len - len) _ _ _ _
  rw [Hq]
  refine ⟨(ok.genFx C sub).gen,rfl,rfl,rfl,hA.genF hh,λq=>hA.genL hh,λhf oo σ₁ s₁ hsub hs₁=>(qa rfl (λh' hk'=>(qy hf rfl ?_))),λhf oo x σ₁ s₁ hXx hsub hx=>(qy ?_ ?_ ?_)⟩
  ·have h1:=(hs₁.ungen gx').sub hsub
   exact ((Rep.genEnd (σ:=σ) sub big hlf h1).setGen hk rfl).keeps hk'
  ·have h2:=ku.ungen gx' hx
   (refine xB ((id h2:zF g _ σ₁ s₁ x.addr x.cls)) λoo oo oo oo oo oo oo oo z34=>?_;refine kT z34 λoe oo oo he hcl oo=>?_)
   have L2:Bv g.M s₁.heap (Hm (.ref x.addr)) x.cls:=(Looks.ld he).andThen (by rw [hcl];exact .now)
   exact L2.andThen (HF (h2.rep.kin gk (ok.genFx C sub)) (hX x hXx))
  ·have h2:=(ku.ungen gx' hx).rep
   refine xF h2 λoo oo oo oo oo lay oo=>?_
   exact xi og nm qn (lay.stays _ _ hpa) (by rw [hog]) (by rw [hog]) (by rw [hog])
  ·have h2:=zF.less (ku.ungen gx' hx) hsub
   exact ZW x σ rfl (zF.setGen (zF.genEnd (σ:=σ) sub big hlf h2) hk rfl) hf hXx rfl
end
end
noncomputable section
def WR {α:Type} (g:G) (f:Fx) (n:Nat) (t:Sem α) (R:y9->α->yF->Prop) (E:QE) (σ:St):Prop:=∀A s,AOk f n A->Rep g f σ s->yP g.M A t (R A) (EP g f E) s
section
variable {α β γ:Type} {g:G} {f:Fx} {n:Nat} {r:β->α->Prop} {E:QE} {σ:St} {mg mb:Str->Option yr} {R:y9->γ->yF->Prop}
theorem Jr (h:W g f n r m Q E σ) (hk: ∀x σ,Q x σ->∀v,r x v->WR g f n (k v) R E σ):WR g f n (m>>=k) R E σ:=
 λA s hA hs=>yo (yK (h A s hA hs) (λv s' zf=>zf.elim λx zf=>zf.elim λσ' zf=>zf.elim λhr zf=>zf.elim λhs' hq=>hk x σ' hq v hr A s' hA hs') λoo oo e=>e)
theorem wS (h:WR g f n (k ()) R E σ):WR g f n (standAt p>>=k) R E σ:=λA s hA hs=>yo (Bh (h A s hA hs))
theorem vl (h:WR g f n (k a) R E σ):WR g f n (pure a>>=k) R E σ:=λA s hA hs=>yo (yB (h A s hA hs))
theorem WR_W (h:WR g f n m (λoo v s'=>∃x σ',r x v/\Rep g f σ' s'/\Q x σ') E σ):W g f n r m Q E σ:=h
end
section
variable {g:G} {f:Fx} {n:Nat} {E:QE} {σ:St} {mg mb:Str->Option yr} {R:y9->yr->yF->Prop}
theorem ZI (hs:(args.any (·.1)||kws.any (·.1.isNone))=false)
  (h:W g f n (λ(x:List yr × List (Str × yr)) (a:Args)=>x=(a.pos,a.kw)) (evalArgs m true args kws) (λx σ=>∀u,WR g f n (zb u m (fst++x.1) x.2) R E σ) E σ):
  WR g f n (DN p m fst args kws) R E σ:=by
 unfold DN
 refine Jr (qr h) (λx σ h v hv=>?_)
 cases hv
 refine wS ?_
 dsimp only
 rw [hs]
 have:=h (decide (args.length+2*kws.length>30))
 unfold zb at this
 simp only [decide_eq_true_eq] at this
 exact this
theorem jp
  (hk: ∀A s,AOk f n A->Rep g f σ s->∃k,(k=Keeper.frame\/k=Keeper.machine\/k=Keeper.boundFrame)/\Bv g.M s.heap (keeperOf a) k)
  (h:WR g f n (call a vs kw) R E σ):WR g f n (zb few a vs kw) R E σ:=λA s hA hs=>by
 refine qf (hk A s hA hs) λk C L=>?_
 unfold zb
 refine yo (L.here ?_)
 have tail: ∀{t:Sem yr},WR g f n t R E σ->yP g.M A (t>>=λr=>holding [r] point>>=λoo=>pure r) (R A) (EP g f E) s:=
  λht=>yo (yK (ht A s hA hs) (λr s₂ hr=>yo (Wr (DA (yB hr)))) λoo oo x=>x)
 have u (mk:yr):WR g f n (DW mk a vs kw) R E σ:=λA s hA hs=>by unfold DW;exact Calls.wpAny_keep (h A s hA hs)
 rcases C with rfl|rfl|rfl<;>dsimp only<;>first|exact tail h|(cases few<;>first|exact tail h|exact tail (u _))
abbrev Xf (x:V × List V) (xs:List V) (ks:List (Nat × V)) (g:G) (f:Fx) (n:Nat) (R:y9->yr->yF->Prop) (E:QE) (σ:St):Prop:=
 Op 40 (x,xs,ks) (∀few a vs kw,VR g x.1 a->VRs g (x.2++xs) vs->KWR g ks kw->WR g f n (zb few a vs kw) R E σ)
theorem X1 (gk:GOk g mg mb) (ok:FOk g f) (hc:(Mine.Internal.E.meth o i as ks ap p).chk (f.nmOf g)=true)
  (w:o.wp g f n (λx σ=>zE g f n x i (λm σ=>wEs g f n as (λxs σ=>wKs g f n ks (λu σ=>Xf m xs u g f n R E σ) E σ) E σ) E σ) E σ):WR g f n (eval ((Mine.Internal.E.meth o i as ks ap p).ast (f.nmOf g)) f.env) R E σ:=by
 refine qc (qh hc) λh1 h7=>?_
 refine qc (qh h1) λh1 h6=>?_
 refine qc (qh h1) λh1 h5=>?_
 refine qc (qh h1) λh1 h4=>?_
 refine qc (qh h1) λh2 h3=>?_
 have h6:=yL.mp h6
 show WR g f n (eval (.Call (.Attribute (o.ast _) (Nm.nm _ i) (P ap)) (zA _ as) (xV _ ks) (P p)) f.env) R E σ
 rw [arm_eval_Call,xn h2]
 refine Jr (o.snd gk ok h3 w) λx σ h v hv=>wS ?_
 unfold methodCall
 have la:(zA (f.nmOf g) as).length=as.length:=yq ..
 have lk:(xV (f.nmOf g) ks).length=ks.length:=yq ..
 have C:FD ((zA (f.nmOf g) as).length+(xV (f.nmOf g) ks).length) (Dc (P p) (W4 (zA (f.nmOf g) as) f.env)) (B2 (P p) (W8 (xV (f.nmOf g) ks) f.env))=true:=by
  unfold FD
  have e1:=(zO (p:=P p) (env:=f.env) h4).1
  have e2:=(js (N:=f.nmOf g) (p:=P p) (env:=f.env) (ks:=ks)).2.1
  have e3:(Dc (P p) (W4 (zA (f.nmOf g) as) f.env)).all (λx=> !x.1)=true:=by
   rw [Hr];simp only [Bool.not_not];rw [e1];rfl
  rw [e3,e2,la,lk]
  simp only [HV,decide_eq_true_eq]
  split<;>(first|lia|omega)
 rw [C,xY h7]
 refine Jr (r:=MR g) (Q:=λm σ=>wEs g f n as (λxs σ=>wKs g f n ks (λu σ=>Xf m xs u g f n R E σ) E σ) E σ) (qr ?_) λm σ h mv hm=>?_
 ·show W g f n (MR g) (calleeOf true (o.ast _) f.env v (Nm.nm _ i)) _ E σ
  unfold calleeOf
  rw [if_pos rfl]
  exact h.h v _ hv
 ·obtain ⟨m1,m2⟩:=mv
  refine vl ?_
  refine ZI (fst:=m2) (by rw [(zO h4).1,js.1];rfl) ?_
  refine xG (JQ gk ok h4 h5 m1 h) (λys σ h F=>?_) λoo oo e=>e
  refine qk h λus u k1 k2 k3=>?_
  exact k3.h F m1 (m2++ys.1) ys.2 hm.1 (hm.2.append k1) k2
end
end
noncomputable section
noncomputable def Yn (g:G) (fa:yu) (slots:List Nat) (d:GD):Bool:=match g.K.lookup fa with
 |some ⟨_,_,.func fd,_⟩=>codeIn g.K fd.code fd.qualname && uN g fd slots && d.chk ⟨g.tab,fd.scope.names,slots⟩
 |_=>false
structure Qp (g:G) (fa:yu) (slots:List Nat) (d:GD):Prop where
 b:Yn g fa slots d=true
 body:(fdO g.K fa).body= .stmts (d.ast ⟨g.tab,(fdO g.K fa).scope.names,slots⟩)
 keep:keepIn g.K (.ref fa)=true
structure Zc (g:G) (n:Nat) (slots:List Nat) (d:GD) (ps:List (Nat × V)) (len:Nat) (fine:Bool) (X:Ex->Prop) (val:Nat->V->Prop) (Need:List (yu × O)->Prop):Prop where
 stop: ∀x,X x->subIn g.K x.cls (.type "StopIteration")=some false
 run: ∃Inv:YG->St->Prop,
  (∀gs f σ,FOk (g.gen gs.gens) f->f.hd=none->gs.j<=len->Inv gs σ->d.c.wt (g.gen gs.gens) f n (λv σ=>(v=true->wYs g n d.ys gs f (Yg g len val Need) (Qg len fine Inv gs.j) (Eg len fine X) σ)/\(v=false->fine=true/\gs.j=len/\Sub gs.H σ.H)) (Eg len fine X gs f) σ)/\
  ∀gs f,FOk (g.gen gs.gens) f->f.hd=none->gs.j=0->Need gs.H->wSs (g.gen gs.gens) f n d.pre (λfl σ=>fl= .next/\Inv gs σ) (Eg len fine X gs f) ⟨slots.map (ps.lookup ·),gs.H⟩
noncomputable abbrev vu (f:Fx) (g:G) (tg:TG) (b o:List SX) (r:yr):Sem Flow:=holding [r] (Hg r)>>=λit=>runOwn (.forLoop (tg.ast (f.nmOf g)) it (xm (f.nmOf g) b) (xm (f.nmOf g) o) f.env) f.env
abbrev zw (g:G) (f:Fx) (n:Nat) (m:V × List V) (xs:List V) (ks:List (Nat × V)) (tg:TG) (b o:List SX) (Q:QF) (E:QE) (σ:St):Prop:=
 Xf m xs ks g f n (λA r s'=>yP g.M A (vu f g tg b o r) (λv s'=>∃x σ',FR g x v/\Rep g f σ' s'/\Q x σ') (EP g f E) s') E σ
noncomputable def u9 (N:Nm) (tg:TG) (b o:List SX):Bool:=tg.chk N && xP N b && xP N o
namespace S
@[reducible] noncomputable def forM (tg:TG) (o:EX) (i:Nat) (as:List EX) (ks:List (Nat × EX × Nat)) (b e:List SX) (ap q p:Nat):SX:=⟨λN=> .For (tg.ast N) ((E.meth o i as ks ap q).ast N) (xm N b) (xm N e) (P p),
 λN=>(E.meth o i as ks ap q).chk N && u9 N tg b e,
 λg f n Q E σ=>u9 (f.nmOf g) tg b e=true->o.wp g f n (λx σ=>zE g f n x i (λm σ=>wEs g f n as (λxs σ=>wKs g f n ks (λkvs σ=>zw g f n m xs kvs tg b e Q E σ) E σ) E σ) E σ) E σ,
 λ{g f n mg mb} gk ok hc {Q E σ} w=>by
  refine qc (qh hc) λh1 h2=>?_
  rw [arm_exec_For]
  refine qi λA s hA hs=>?_
  refine yo (yK (X1 gk ok h1 (w h2) A s hA hs) (λr s' h=>?_) λoo oo h=>h)
  exact yo (yB (yo (Bh h)))⟩
end S
section
variable {g:G} {f:Fx} {n:Nat} {E:QE} {σ:St} {mg mb:Str->Option yr} {Q:QF}
theorem zw.of (gk:GOk g mg mb) (ok:FOk g f) (hh:f.hd=none) (I:n<W1) {ps:List (Nat × V)} (F:Qp g fa slots d) (hm:m.1= .fix (.ref fa)) (hb:Binds g fa (m.2++xs) [] ps) (a9:x8 (ps.map (·.1))=true) (aa:(ps.all λp=>slots.contains p.1)=true)
     (G:Zc g (n+9) slots d ps len fine X val Need) (hc:u9 (f.nmOf g) tg b o=true) (Inv:Nat->St->Prop) (hN: ∀k σ,Inv k σ->Need σ.H) (h0:Inv 0 σ)
  (a1: ∀gs p k x σ,FOk (g.gen gs) (f.at p)->k<len->val k x->Inv k σ->wTg (g.gen gs) (f.at p) n tg x (λσ=>wSs (g.gen gs) (f.at p) n b (turn (Wk (Inv (k+1))) Q) E σ) E σ)
  (a7:fine=true->∀σ,Inv len σ->wSs g f n o Q E σ) (ac:fine=false->∀x σ,X x->Inv len σ->E x σ):zw g f n m xs [] tg b o Q E σ:=Op.mk λaj a vs kw ha hv hk=>by
 refine qc (qh hc) λhc ho=>?_
 refine qc (qh hc) λht ae=>?_
 rw [hm] at ha
 cases ha
 obtain ⟨hB,u,a0⟩:=F
 unfold Yn at hB
 unfold Binds at hb
 unfold fdO at u hb
 obtain ⟨oc,od,fd,ai,hl,hB⟩:=XE hB
 rw [hl] at u hb
 refine qc (qh hB) λh1 h3=>?_
 refine qc (qh h1) λh1 h2=>?_
 have C:=wI h2
 refine jp (λA s hA hs=>keeps_K a0 s.heap (hs.kin gk ok)) λA s hA hs=>?_
 refine qf (G.run) λa8 J a4=>?_
 refine Dv (kS gk ok hl h1 u C (WJ hA.depth I) (λs vs kw Z hv hk=>?_) (zu a9) (λp hp=>WK.mp (yY.mp aa p hp)) hs hv hk λa L o' m0 t s' a5 hi hn a6 hg=>?_)
 ·refine qf (hb vs kw hv hk) λa2 e1 e2=>?_
  exact qj a2 (λM A E Q hq=>xp (λa o e=>Z a o (gk.k a o e)) hq 9 _ e1) e2
 have hk:g.gens.size<=s.gens.size:=hs.gx.size
 have Z:s'.gens[s.gens.size]? =some (.fresh (.func (d.ast ⟨g.tab,fd.scope.names,slots⟩) (Bu fd.scope L fd.globals fd.closure (fd.qualname++".<locals>.") (some fa) fd.code none fd.builtins))):=by rw [hg];exact B7
 have ab:s'.heap.get? a=some (Yo s.gens.size fd.name fd.qualname t):=hi.there (a,_) (.head _)
 refine yo (Wr (Dx (g:=s.gens.size) (xi _ _ _ ab rfl rfl rfl) ?_))
 have ge:kg g (Bu fd.scope L fd.globals fd.closure (fd.qualname++".<locals>.") (some fa) fd.code none fd.builtins) L slots:=C.ev
 refine Uv gk ok hh Inv hN hA (JA (nm:= .str fd.name t) (qn:= .str fd.qualname (t+1)) (d:=d) (env:=Bu fd.scope L fd.globals fd.closure (fd.qualname++".<locals>.") (some fa) fd.code none fd.builtins) (val:=val) (X:=X) (fine:=fine) (len:=len) (Need:=Need) gk ok hh hA I ge a5 rfl hk G.stop (λσ h=>h)) ht ae ho a1 a7 ac ?_ hi h0
 refine qW o' m0 _ (qW _ _ _ (vm _ rfl hn a6 Z (.inl (qy rfl rfl rfl)) (λag f' A' P' H' ah e1 e2 cx af a3=>?_)))
 subst e2
 have x1:=cx.2.one
 exact j6 gk C.co (by unfold Bm;rw [show (Bu fd.scope L fd.globals fd.closure (fd.qualname++".<locals>.") (some fa) fd.code none fd.builtins).scope.kind= .function from C.kind];rfl) h3 a8 J cx a3 (a4 ag f' x1.ok x1.hd e1 af)
end
end
noncomputable def Qy (target c elt:Expr) (env:Env) (v:yr):Sem (Option yr):=
 Bl target env v>>=λ_=>FL c env (eval c env)>>=λb=>if b=true then (eval elt env>>=λx=>pure (some x)) else pure none
theorem wA (F g C c:Expr) (u:Scope) (pos:Pos) (it I:yr) (env:Env):
  compTurn (.ListComp F [⟨g,C,[c],0⟩] u pos) 0 it I env=(standAt C.pos>>=λoo=>DP it>>=λr=>match r with
   |none=>pure (.done .next)
   |some v=>Bz g it v>>=λoo=>Bl g env v>>=λoo=>
    (forIn [c] true λc s=>if s=true then (FL c env (eval c env)>>=λok=>pure (ForInStep.yield ok)) else pure (ForInStep.yield s))>>=λok=>
    if ok=true then ((eval F env>>=λx=>call (.builtin "list.append") [I,x]>>=λoo=>pure ())>>=λoo=>
     again (.compLoop (.ListComp F [⟨g,C,[c],0⟩] u pos) 0 it I env)) else again (.compLoop (.ListComp F [⟨g,C,[c],0⟩] u pos) 0 it I env)):=by rfl
theorem J7 (c:Expr) (env:Env):(forIn [c] true λc s=>if s=true then (FL c env (eval c env)>>=λok=>pure (ForInStep.yield ok)) else pure (ForInStep.yield s):Sem Bool)=FL c env (eval c env):=by
 rw [Hz]
 exact (bind_assoc _ _ _).trans ((congrArg _ (funext λok=>pure_bind _ _)).trans (bind_pure _))
theorem U3 (g c u:Expr) (env:Env) (v C:yr) (k:Sem Fin):
  (Bl g env v>>=λoo=>FL c env (eval c env)>>=λok=>if ok=true then ((eval u env>>=λx=>call (.builtin "list.append") [C,x]>>=λoo=>pure ())>>=λoo=>k) else k)=
  (Qy g c u env v>>=λx=>match x with|none=>k|some x=>call (.builtin "list.append") [C,x]>>=λoo=>k):=by
 unfold Qy
 simp -iota only [bind_assoc,pure_bind]
 refine congrArg _ (funext λoo=>congrArg _ (funext λb=>?_))
 cases b
 ·exact (pure_bind _ _).symm
 ·show (eval u env>>=λx=>call (.builtin "list.append") [C,x]>>=λoo=>k)=((eval u env>>=λx=>pure (some x))>>=_)
  rw [bind_assoc]
  exact congrArg (eval u env>>= ·) (funext λx=>(pure_bind _ _).symm)
section
variable {g:G} {f:Fx} {n:Nat} {mg mb:Str->Option yr} {σ:St} {s:yF} {E:QE} {A:y9} {Q:QV}
theorem XF (I:Nat->yF->Prop)
  (turn: ∀n s,I n s->yP g.M A (DP it) (λr s₁=>match r with
   |none=>R (.ok .next) s₁
   |some v=>yP g.M A (Bz target it v) (λoo s₂=>yP g.M A (Qy target c elt env v) (λx s₃=>match x with
    |none=>∃m,m<n/\I m s₃
    |some x=>yP g.M A (call (.builtin "list.append") [acc,x]) (λoo s₄=>∃m,m<n/\I m s₄) (λoo oo=>False) s₃) (λoo oo=>False) s₂) (λoo oo=>False) s₁) (λoo oo=>False) s)
  (n:Nat) (h:I n s):W9 g.M A (.compLoop (.ListComp elt [⟨target,iter,[c],0⟩] scope pos) 0 it acc env) R s:=by
 refine codeAny_loop rfl I (λn s hI=>?_) n h
 show yP _ A ((compTurn (.ListComp elt [⟨target,iter,[c],0⟩] scope pos) 0 it acc env).onRaise (λx=>do BE x env;BW x)) _ _ s
 refine wpAny_noted ?_
 rw [wA,J7]
 have no: ∀{P:yr->yF->Prop},∀e s',False->P e s':=λoo oo h=>h.elim
 refine yo (Bh (yo (yK (turn n s hI) (λr s₁ h₁=>?_) no)))
 cases r with
 |none=>exact yB h₁
 |some v=>
  refine yo (yK h₁ (λoo s₂ h₂=>?_) no)
  refine Eq.mpr (congrArg (λt=>yP _ A t _ _ s₂) (U3 target c elt env v acc (again (.compLoop (.ListComp elt [⟨target,iter,[c],0⟩] scope pos) 0 it acc env)))) ?_
  refine yo (yK h₂ (λx s₃ h₃=>?_) no)
  cases x with
  |none=>exact yB (qa rfl h₃)
  |some x=>exact yo (yK h₃ (λoo s₄ h₄=>yB (qa rfl h₄)) no)
def OVR (g:G):Option V->Option yr->Prop
 |none,none=>True
 |some x,some v=>VR g x v
 |_,_=>False
noncomputable def uC (ys:List V):Option V->List V
 |none=>ys
 |some y=>ys++[y]
theorem Jj (gk:GOk g mg mb) (ok:FOk g f) {el c:EX} (u:FOk g (f.comp g ns slots C m p)) (F:el.chk ((f.nmOf g).comp ns slots)=true) (hc:c.chk ((f.nmOf g).comp ns slots)=true) (ht:tg.chk ((f.nmOf g).comp ns slots)=true)
   (hv:VR g x v) {P:Option V->St->Prop} (h:wTg g (f.comp g ns slots C m p) n tg x (λσ=>c.wt g (f.comp g ns slots C m p) n (λb σ=>(b=true->el.wp g (f.comp g ns slots C m p) n (λy σ=>P (some y) σ) E σ)/\(b=false->P none σ)) E σ) E σ):
  W g (f.comp g ns slots C m p) n (OVR g) (Qy (tg.ast ((f.nmOf g).comp ns slots)) (c.ast ((f.nmOf g).comp ns slots)) (el.ast ((f.nmOf g).comp ns slots)) (f.comp g ns slots C m p).env v) P E σ:=by
 have hN:(f.comp g ns slots C m p).nmOf g=(f.nmOf g).comp ns slots:=JH ok
 rw [<- hN] at F hc ht |-
 unfold Qy
 refine qu (zD gk u tg ht hv h) λoo oo h oo oo=>qu (c.sndt gk u hc h) λb σ h b' e=>?_
 subst e
 cases b with
 |true=>exact qu (el.snd gk u F (h.1 rfl)) λy σ h v hv=>qI (x:=some y) hv h
 |false=>exact qI (x:=none) trivial (h.2 rfl)
theorem X8 (gk:GOk g mg mb) (ok:FOk g f) (hh:f.hd=none) {tg:TG}
  (w:Walk g (f.comp g ns slots C m f.prot) I (tg.ast ((f.nmOf g).comp ns slots)) len val obj PW) (a5: ∀k A s hs (Q:yr->yF->Prop) (E:yr->yF->Prop),obj k hs->(∀p∈hs,s.heap.get? p.1=some p.2)->Q (.ref I) s->yP g.M A (Hg (.ref I)) Q E s)
  {el it c:EX} (Inv:Nat->List V->List (yu × O)->Prop) (hP: ∀k ys H loc,Inv k ys H->PW ⟨loc,(D,.list ys)::H⟩)
  (h1:slots.Nodup) (h2: ∀k∈slots,k<g.tab.length) (h3: ∀q∈ns,q.1<g.tab.length)
  (a3: ∀p k x v N ys H loc,FOk g (f.comp g ns slots C m p)->k<len->val k x N->VR g x v->Inv k ys H->loc.length=slots.length->
   W g (f.comp g ns slots C m p) n (OVR g) (Qy (tg.ast ((f.nmOf g).comp ns slots)) (c.ast ((f.nmOf g).comp ns slots)) (el.ast ((f.nmOf g).comp ns slots)) (f.comp g ns slots C m p).env v) (λy σ'=>σ'.loc.length=slots.length/\WkH (Inv (k+1) (uC ys y)) σ'.H) (λoo oo=>False) ⟨loc,N++H⟩)
  (hz: ∀k ys H,Inv k ys H->ys.length<=16777216) (hR: ∀s' ys H' loc,Inv len ys H'->Rep g (f.comp g ns slots C m f.prot) ⟨loc,(D,.list ys)::H'⟩ s'->R (.ok .next) s')
    (hl:loc.length=slots.length) (hA:AOk f n A) (ho:obj 0 hs) (hi:qF g (f.comp g ns slots C m f.prot) hs ⟨loc,(D,.list [])::H⟩ s) (h0:Inv 0 [] H):
  W9 g.M A (.compStart (.ListComp (el.ast ((f.nmOf g).comp ns slots)) [⟨tg.ast ((f.nmOf g).comp ns slots),it.ast (f.nmOf g),[c.ast ((f.nmOf g).comp ns slots)],0⟩] (qE (f.nmOf g) ns) (P pp)) 0 (.ref I) (.ref D) (f.comp g ns slots C m f.prot).env) R s:=by
 have hd:A.handled=none:=hA.hd.trans hh
 have loop:W9 g.M A (.compLoop (.ListComp (el.ast ((f.nmOf g).comp ns slots)) [⟨tg.ast ((f.nmOf g).comp ns slots),it.ast (f.nmOf g),[c.ast ((f.nmOf g).comp ns slots)],0⟩] (qE (f.nmOf g) ns) (P pp)) 0 (.ref I) (.ref D) (f.comp g ns slots C m f.prot).env) R s:=by
  refine XF (λk' s'=>∃k loc ys H hs,k<=len/\k'=len - k/\obj k hs/\loc.length=slots.length/\qF g (f.comp g ns slots C m f.prot) hs ⟨loc,(D,.list ys)::H⟩ s'/\Inv k ys H) (λk' s' hI=>?_) len (qW 0 loc [] (Xg H hs (WI _) rfl ho hl hi h0))
  (refine zc hI λk z ys ah=>?_;refine Jn ah λH hs hk ai ac hl a0 hv=>?_;clear hI;subst ai)
  refine Or.elim (W5 k len) (λu=>?_) λam=>?_
  ·refine yK (w.item k _ s' _ hs u hd ac a0 (hP _ _ _ _ hv)) (λr s₁ h₁=>?_) λoo oo h=>h.elim
   obtain ⟨v,rfl,h₁⟩:=h₁
   dsimp only
   refine yK h₁ (λoo s₁ h₁=>?_) λoo oo h=>h.elim
   refine xF h₁ λx N hs' hr a8 X F=>?_
   have F:qF g (f.comp g ns slots C m f.prot) hs' ⟨z,(D,.list ys)::(N++H)⟩ s₁:=by
    obtain ⟨a1,a2,m',a6,N',b1,b2,b3,b4,b5,b6,b7,b8⟩:=F
    refine qf (b2.perm (H':=(D,.list ys)::(N++H)) Bd) λao c1 c2=>?_
    exact ⟨a1,a2,m',a6,ao,b1,c1,b3.perm (c2.append_left _),b4,b5,b6,b7,λp hp hm=>b8 p hp ((List.Perm.map _ (c2.append_left a6)).mem_iff.mpr hm)⟩
   have big:=F.toRep.big
   refine zk (F.shut) λp sub al ab=>?_
   refine zk (Rep.hideL al) λp₂ a4 aa back=>?_
   have aj:FOk g (f.comp g ns slots C m p₂):=ok.comp gk (λb o e=>a4 _ _ (sub _ _ e)) h1 h2 h3
   have an:AOk (f.comp g ns slots C m p₂) n A:=⟨hA.frames,hA.units,hA.depth,hA.hd,hA.guards⟩
   refine yK (a3 p₂ k x v N ys H z aj u a8 hr hv hl A s₁ an aa) (λy s₃ h₃=>?_) λe s₂ h=>h.elim λoo h=>h.elim λoo h=>h.2.2.elim
   (refine xW h₃ λyv σ₃ hy J a7 ag=>?_;refine qk ag λH₁ H₂ q1 q2 Z=>?_)
   cases y with
   |none=>
    cases yv with
    |some _=>exact (hy:False).elim
    |none=>exact qj (len - (k+1)) (by exact (zN [.ne (.a VA (.a VB KB)) VC,.ne (.a VD VB) VC] (.nt VA VD) [1,1,-1] rfl (yn (qq [.nt VA VB] (.nl (.a VA KB) VB) rfl u)) (yn hk))) (qW (k+1) σ₃.loc ys (Xg H₂ hs' u rfl X a7 (qF.back sub big F.free ab (back _ _ (Rep.sub (Rep.perm (σ:=σ₃) J q1) q2))) Z))
   |some y=>
    cases yv with
    |none=>exact (hy:False).elim
    |some yv=>
     refine kh (back _ _ (Rep.sub (Rep.perm (σ:=σ₃) J q1) q2)) hy (hz _ _ _ hv) λs₄ a9=>?_
     exact qj (len - (k+1)) (by exact (zN [.ne (.a VA (.a VB KB)) VC,.ne (.a VD VB) VC] (.nt VA VD) [1,1,-1] rfl (yn (qq [.nt VA VB] (.nl (.a VA KB) VB) rfl u)) (yn hk))) (qW (k+1) σ₃.loc _ (Xg H₂ hs' u rfl X a7 (qF.back sub big F.free ab a9) Z))
  ·obtain rfl:k=len:=B9 hk am
   refine yK (w.stop _ s' _ hs hd ac a0 (hP _ _ _ _ hv)) (λr s₁ h₁=>?_) λoo oo h=>h.elim
   (refine qZ h₁ λaf ak ae=>?_;refine qZ ae λe1 e2 e3=>?_;clear h₁;subst af)
   dsimp only
   exact hR _ _ _ _ hv (a0.leave ak e1 e2 e3)
 exact D4 loop (a5 0 _ _ _ _ _ ho hi.there loop)
end
noncomputable abbrev kz (N:Nm) (ns:List (Nat × WD)) (slots:List Nat) (tg:TG) (it c el:EX) (p:Nat):Expr:=
 .ListComp (el.ast (N.comp ns slots)) [⟨tg.ast (N.comp ns slots),it.ast N,[c.ast (N.comp ns slots)],0⟩] (qE N ns) (P p)
noncomputable def QY (N:Nm) (ns:List (Nat × WD)) (slots:List Nat) (tg:TG) (it c el:EX):Bool:=
 c.chk (N.comp ns slots) && (x8 slots && slots.all (N.lt ·) && ns.all (λp=>N.lt p.1) && ns.all (λp=>p.2 != .cell) && ns.all (λp=>p.2 != .local||((qE N ns).names.lookup (N.nm p.1)==some .local)) && XS (it.ast N) && it.chk N && el.chk (N.comp ns slots) && tg.chk (N.comp ns slots))
section
variable (g:G) (f:Fx) (n:Nat)
abbrev ju (ns:List (Nat × WD)) (slots:List Nat) (tg:TG) (it c el:EX) (p:Nat) (x:V) (Q:QV) (E:QE) (σ:St):Prop:=
 Op 31 (ns,slots,tg,it,c,el,p,x) (QY (f.nmOf g) ns slots tg it c el=true->∀v use Q',VR g x v->JS g f n use Q Q'->
  W g f n (VR g) (Br (kz (f.nmOf g) ns slots tg it c el p) (qE (f.nmOf g) ns) f.env (B6 [⟨tg.ast ((f.nmOf g).comp ns slots),it.ast (f.nmOf g),[c.ast ((f.nmOf g).comp ns slots)],0⟩] (P p)) (Ff []) false (pure v) use) Q' E σ)
end
section
variable {g:G} {f:Fx} {n:Nat} {mg mb:Str->Option yr} {σ:St} {s:yF} {E:QE} {A:y9} {Q:QV}
theorem J0 (gk:GOk g mg mb) (ok:FOk g f) (hh:f.hd=none) {obj:yu->Nat->List (yu × Obj)->Prop}
  (a7:xg (f.cells.lookup ·) ns=true)
  (a3: ∀A s v (Q':yr->yF->Prop),AOk f n A->Rep g f σ s->VR g x v->(∀I hs s',obj I 0 hs->qF g f hs ⟨σ.loc,H₀⟩ s'->(∀f',Walk g f' I (tg.ast ((f.nmOf g).comp ns slots)) len val (obj I) PW)->(∀k A s hs (Q:yr->yF->Prop) (E:yr->yF->Prop),obj I k hs->(∀p∈hs,s.heap.get? p.1=some p.2)->Q (.ref I) s->yP g.M A (Hg (.ref I)) Q E s)->Q' (.ref I) s')->
   yP g.M A (Hg v) Q' (EP g f E) s)
  (Inv:Nat->List V->List (yu × O)->Prop) (hP: ∀k ys H loc D,Inv k ys H->PW ⟨loc,(D,.list ys)::H⟩)
  (a2:el.chk ((f.nmOf g).comp ns slots)=true->c.chk ((f.nmOf g).comp ns slots)=true->tg.chk ((f.nmOf g).comp ns slots)=true->∀p m C k x v N ys H loc,FOk g (f.comp g ns slots C m p)->k<len->val k x N->VR g x v->Inv k ys H->loc.length=slots.length->
   W g (f.comp g ns slots C m p) n (OVR g) (Qy (tg.ast ((f.nmOf g).comp ns slots)) (c.ast ((f.nmOf g).comp ns slots)) (el.ast ((f.nmOf g).comp ns slots)) (f.comp g ns slots C m p).env v) (λy σ'=>σ'.loc.length=slots.length/\WkH (Inv (k+1) (uC ys y)) σ'.H) (λoo oo=>False) ⟨loc,N++H⟩)
  (hz: ∀k ys H,Inv k ys H->ys.length<=16777216) (h0:Inv 0 [] H₀) (a8: ∀ys H D,Inv len ys H->Q (.ref D) ⟨σ.loc,(D,.list ys)::H⟩):ju g f n ns slots tg it c el pp x Q E σ:=Op.mk λhc v use Q' hv hu A s hA hs=>by
 unfold QY at hc
 refine qc (qh hc) λc0 hc=>?_
 refine qc (qh hc) λhc c9=>?_
 refine qc (qh hc) λhc c8=>?_
 refine qc (qh hc) λhc c7=>?_
 refine qc (qh hc) λhc c6=>?_
 refine qc (qh hc) λhc c5=>?_
 refine qc (qh hc) λhc c4=>?_
 refine qc (qh hc) λhc c3=>?_
 refine qc (qh hc) λc1 c2=>?_
 have h1:=zu c1
 have h2: ∀k∈slots,k<g.tab.length:=λk hk=>yL.mp (yY.mp c2 k hk)
 have h3: ∀q∈ns,q.1<g.tab.length:=λk hk=>yL.mp (yY.mp c3 k hk)
 have h4: ∀y∈(qE (f.nmOf g) ns).names,y.2≠.cell:=λy hy=>by
  (refine qf (yD.mp hy) λp hp ac=>?_;subst ac)
  have:=yY.mp c4 p hp
  intro e
  simp only at e
  rw [e] at this;exact absurd this (by decide)
 have h5: ∀y∈(qE (f.nmOf g) ns).names,y.2= .local->(qE (f.nmOf g) ns).names.lookup y.1=some .local:=λy hy hl=>by
  (refine qf (yD.mp hy) λp hp ab=>?_;subst ab)
  have:=yY.mp c5 p hp
  simp only at hl
  rw [hl] at this
  refine Or.elim (BF.mp this) (λh=>?_) λh=>?_
  ·exact absurd h (by decide)
  ·exact eq_of_beq h
 refine DS rfl (k7 c6 _) (zM ok a7) rfl h5 (yB (a3 A s v _ hA hs hv λI ah s₂ ho hi w a4=>?_))
 refine zk (hi.shut) λp sub hr ak=>?_
 have big:=hs.big
 have aj:=hr.push (o:= .list []) (obj:=Bi #[] 0) (qU [] 0 (.nil) rfl)
 refine FY ?_ (by decide)
 refine By h4 (by intro y hy;simp at hy) (λh' al ai=>?_) rfl
 refine qf (aj.toG) λm hG hL=>?_
 have R2:=hG.laid (s':={s₂ with heap:=h',toks:=s₂.toks+([]:List (Str × yr)).length}) (f:=f.comp g ns slots (s₂.heap.push (Bi #[] 0)).objs.size m p) (loc:=slots.map λoo=>none) (l:=[]) (val:=λoo=>none) ⟨(jH _ _ rfl),al,λb o e=>ai.extBut b o (BP (Heap.lt_size e)) (Heap.get?_push_of_some _ e),yM _⟩
  (λp hp=>(yI hp).elim) WW (λp hp=>(yI hp).elim) rfl rfl rfl (λi k x e1 e2=>by have:=(QB (φ:=λoo=>none) e1).symm.trans e2;cases this)
 have am:qF g (f.comp g ns slots (s₂.heap.push (Bi #[] 0)).objs.size m f.prot) ah ⟨slots.map λoo=>none,(s₂.heap.objs.size,.list [])::H₀⟩ {s₂ with heap:=h',toks:=s₂.toks+([]:List (Str × yr)).length}:=qF.back sub big hi.free ak R2
 refine X8 gk ok hh (w _) a4 Inv (λk ys H loc h=>hP k ys H loc _ h) h1 h2 h3 (λp k x v N ys H loc af hk hx hr hv hl=>a2 c8 c0 c9 p m _ k x v N ys H loc af hk hx hr hv hl) hz (λs' ys H' loc ag a5=>?_) (yq ..) hA ho am h0
 (refine Qn (Rep.compLeave (f:=f) (loc:=σ.loc) a5 hL) λp' F a1 fC aa=>?_;refine qB aa λoC mC X a0=>?_)
 have hq:=a8 ys H' s₂.heap.objs.size ag
 cases use with
 |none=>
  refine qk a0 λes ep k1 k2 k3=>?_
  exact qj mC (xi oC es ep (a1.stays _ _ X) k1 k2 k3) (λa9 J=>(qe _ _ (.ref) (a1.butC F big X fC J) (hu _ _ hq)))
 |some u=>
  refine yK (hu p' _ _ (.ref s₂.heap.objs.size) (ok.at F) hq .ref A s' hA.at a1) (λoo ae a9=>?_) λe ae h=>h.elim λoo h=>h.elim λoo h=>h.2.2.elim
  refine qk a9 λoo an oo Z a6=>?_
  refine qk a0 λes ep k1 k2 k3=>?_
  exact qj mC (xi oC es ep (Z.stays _ _ X) k1 k2 k3) (λh3 J=>(qe _ _ (.none) (Z.butC F big X fC J) a6))
variable {i j:Int}
theorem ju.range (gk:GOk g mg mb) (ok:FOk g f) (hh:f.hd=none) (hm:(r,.rng i j 1)∈σ.H) (hi: -4611686018427387904<=i/\i<4611686018427387904) (hj: -4611686018427387904<=j/\j<4611686018427387904)
  (u:slots.length=1) (X:xg (f.cells.lookup ·) ns=true) (Inv:Nat->List V->List (yu × O)->Prop)
  (F: ∀p m C (k:Nat) ys H,FOk g (f.comp g ns slots C m p)->(k:Int)<j - i->Inv k ys H->c.wt g (f.comp g ns slots C m p) n (λb σ'=>(b=true->el.wp g (f.comp g ns slots C m p) n (λy σ'=>(∃z,σ'.loc=[z])/\Inv (k+1) (ys++[y]) σ'.H) (λoo oo=>False) σ')/\(b=false->(∃z,σ'.loc=[z])/\Inv (k+1) ys σ'.H)) (λoo oo=>False) ⟨[some (.int (i+(k:Int)))],H⟩)
  (hz: ∀k ys H,Inv k ys H->ys.length<=16777216) (h0:Inv 0 [] σ.H) (Z: ∀ys H D,Inv (j - i).toNat ys H->Q (.ref D) ⟨σ.loc,(D,.list ys)::H⟩):ju g f n ns slots (.one 0 q) it c el pp (.ref r) Q E σ:=
 J0 gk ok hh (obj:=λI=>jn I i (j - i).toNat) (len:=(j - i).toNat) (PW:=λoo=>True) X (λA s v Q' hA hs hv hQ=>by
  obtain rfl:=hv
  refine zc (hs.rng hm) λt₁ u₁ v₁ e=>?_
  have hsz:Builtin.Range.rangeSize i j 1=((j - i).toNat:Int):=rangeSize_nat i j
  refine FP e (small_one hi.1 hi.2 hj.1 hj.2) ?_
  have z:=hs.made (o:={cls:= .type "range_iterator",data:= .fields #[rawInt i,rawInt (Builtin.Range.rangeSize i j 1),rawInt 1]})
  rw [hsz] at z |-
  have z':jn s.heap.objs.size i (j - i).toNat 0 [(s.heap.objs.size,{cls:= .type "range_iterator",data:= .fields #[rawInt i,rawInt ((j - i).toNat:Int),rawInt 1]})]:=by
   have e1:i+((0:Nat):Int)=i:=by exact (za [] (.ze (.a ZA UA) ZA) rfl)
   have e2:((j - i).toNat:Int) - ((0:Nat):Int)=((j - i).toNat:Int):=by exact (qD [] (.ze (.s (.c VA) UA) (.c VA)) rfl)
   unfold jn
   rw [e1,e2]
  exact hQ _ _ _ z' z (λf'=>Walk.range) λk A s hs Q E ho hI hq=>by
   subst ho
   exact wpAny_pyIter_rangeiter (x:=i+(k:Int)) (left:=((j - i).toNat:Int) - (k:Int)) (step:=1) (hI _ (.head _)) hq) Inv (λoo oo oo oo oo oo=>trivial) (λa3 a4 ht p m C k x v N ys H loc J hk hx hr hv hl=>by
    (refine qc hx λa2 a1=>?_;clear hx;subst a2;subst a1)
    rw [u] at hl |-
    rcases loc with _|⟨z,_|_⟩<;>first|(cases hl;done)|skip
    refine xG (Jj gk ok J a3 a4 ht hr (P:=λy σ'=>(∃z,σ'.loc=[z])/\Inv (k+1) (uC ys y) σ'.H) (show wTg g _ n (.one 0 q) _ _ _ ⟨[z],H⟩ from F p m C k ys H J (by (first|lia|omega)) hv)) (λy σ' h=>?_) λoo oo h=>h
    (refine qc h λa0 h=>?_;obtain ⟨z,e⟩:=a0)
    exact qa (by rw [e];rfl) (.of h)) hz h0 Z
end
namespace E
@[reducible] noncomputable def compI (ns:List (Nat × WD)) (slots:List Nat) (tg:TG) (it c el:EX) (p:Nat):EX:= .of (λN=>kz N ns slots tg it c el p) (λN=>QY N ns slots tg it c el)
 (λg f n Q E σ=>it.wp g f n (λx σ=>ju g f n ns slots tg it c el p x Q E σ) E σ)
 (λ{g f n mg mb} gk ok hc {Q E σ} w=>by
  have c7:it.chk (f.nmOf g)=true:=by
   have:=hc
   unfold QY at this
   exact (qh (qh (qh (qh this).2).1).1).2
  show W g f n (VR g) (Br (kz (f.nmOf g) ns slots tg it c el p) (qE (f.nmOf g) ns) f.env (B6 [⟨tg.ast ((f.nmOf g).comp ns slots),it.ast (f.nmOf g),[c.ast ((f.nmOf g).comp ns slots)],0⟩] (P p)) (Ff []) false (eval (it.ast (f.nmOf g)) f.env)) Q E σ
  rw [zx]
  exact qu (it.snd gk ok c7 w) λx σ h v hv=>h.h hc v Option.none Q hv λoo oo h=>h) λoo oo oo=>rfl
end E
namespace S
@[reducible] noncomputable def aclI (i q₀:Nat) (ns:List (Nat × WD)) (slots:List Nat) (tg:TG) (it c el:EX) (pe p:Nat):SX:=⟨λN=> .Assign [(TG.one i q₀).ast N] (kz N ns slots tg it c el pe) (P p),λN=>N.isLoc i && QY N ns slots tg it c el && ((P q₀).line==(P pe).line) && ns.all (λz=> !(N.nm z.1==N.nm (N.slot i))),
 λg f n Q E σ=>it.wp g f n (λx σ=>ju g f n ns slots tg it c el pe x (λy σ=>wTg g f n (.one i q₀) y (λσ=>Q .next σ) (λoo oo=>False) σ) E σ) E σ,
 λ{g f n mg mb} gk ok hc {Q E σ} w=>by
  refine qc (qh hc) λhc c4=>?_
  refine qc (qh hc) λhc c3=>?_
  refine qc (qh hc) λc1 c2=>?_
  have c7:it.chk (f.nmOf g)=true:=by
   have:=c2
   unfold QY at this
   exact (qh (qh (qh (qh this).2).1).1).2
  refine Qn (slot_of c1) λk e1 e2 e3 e4=>?_
  have hsw:FN (kz (f.nmOf g) ns slots tg it c el pe) (some (.Name ((f.nmOf g).nm ((f.nmOf g).slot i)) (P q₀))) (P p).line f.env=pure true:=by
   show (pure (f.env.blockKind== .function && f.env.kindOf ((f.nmOf g).nm ((f.nmOf g).slot i))==some .local && (P q₀).line==(P pe).line
    && !((qE (f.nmOf g) ns).names.any λ(n,k)=>n==((f.nmOf g).nm ((f.nmOf g).slot i)) && (k== .local||k== .cell))):Sem Bool)=pure true
   have b1:(f.env.blockKind== .function)=true:=by unfold Env.blockKind;rw [ok.kind];decide
   have b2:(f.env.kindOf ((f.nmOf g).nm ((f.nmOf g).slot i))==some .local)=true:=by rw [e3];decide
   have b3:((qE (f.nmOf g) ns).names.any λ(n,k)=>n==((f.nmOf g).nm ((f.nmOf g).slot i)) && (k== .local||k== .cell))=false:=by
    rw [F4]
    intro y hy
    (refine qf (yD.mp hy) λz hz z47=>?_;subst z47)
    have:=not_true (yY.mp c4 z hz)
    simp only [this,DX]
    decide
   rw [b1,b2,b3,c3];rfl
  show W g f n (FR g) (exec (.Assign [.Name ((f.nmOf g).nm ((f.nmOf g).slot i)) (P q₀)] (kz (f.nmOf g) ns slots tg it c el pe) (P p)) f.env) Q E σ
  rw [exec_Assign_Name_used _ _ _ _ hsw]
  refine qi ?_
  show W g f n (FR g) ((Br (kz (f.nmOf g) ns slots tg it c el pe) (qE (f.nmOf g) ns) f.env (B6 [⟨tg.ast ((f.nmOf g).comp ns slots),it.ast (f.nmOf g),[c.ast ((f.nmOf g).comp ns slots)],0⟩] (P pe)) (Ff []) false (eval (it.ast (f.nmOf g)) f.env) (some (Bl (.Name ((f.nmOf g).nm ((f.nmOf g).slot i)) (P q₀)) f.env))>>=λoo=>pure ())>>=λoo=>pure Flow.next) Q E σ
  rw [zx]
  refine qu (r:=λ(_:Unit) (_:Unit)=>True) (Q:=λoo σ=>Q .next σ) (qu (Q:=λoo σ=>Q .next σ) (qu (it.snd gk ok c7 w) λx σ h v hv=>h.h c2 v (some _) (λoo σ=>Q .next σ) hv λp y σ v okp hq hv=>?_) λx σ h v hv=>qI (x:=()) trivial h) λx σ h v hv=>qI (x:=Fl.next) (show FR g .next Flow.next from rfl) h
  exact zD gk okp (.one i q₀) c1 hv hq⟩
end S
section
variable {g:G} {f:Fx} {n:Nat} {mg mb:Str->Option yr} {s:yF} {E:QE} {A:y9}
theorem qF.list1 (hi:qF g f hs ⟨loc,(S,.list ys)::H⟩ s) (hr:VRs g ys' vs)
  (C:Heap.SameBut S s.heap h') (hg:h'.get? S=some (Bi vs.toArray k)):qF g f hs ⟨loc,(S,.list ys')::H⟩ {s with heap:=h'}:=by
 have big:=hi.toRep.big
 refine zk (hi.shut) λp sub F I=>?_
 have u:HU S (.list ys) (.list ys') ((S,.list ys)::H) ((S,.list ys')::H):= .head
 exact qF.back sub big hi.free I (F.upd1 u Mine.Internal.list1 (qU _ _ hr rfl) C hg)
variable {I S:yu} {len:Nat} {val:Nat->V->Prop} {obj:Nat->List (yu × Obj)->Array Bc->Prop} {P:St->Prop} {X:Ex->Prop} {loc:List (Option V)} {H:List (yu × O)} {R:Result->yF->Prop} {res:yr}
theorem JX (w:j8 g f I A.in1 len val obj P true X) (hz:len<=16777216) (hP: ∀ys,P ⟨loc,(S,.list ys)::H⟩)
  (hR: ∀xs s',xs.length=len->(∀i x,xs[i]? =some x->val i x)->Rep g f ⟨loc,(S,.list xs)::H⟩ s'->R (.ok (.ret res)) s'):
  ∀(k j:Nat) (ys:List V) (hs:List (yu × Obj)) (s:yF),len - j=k->j<=len->obj j hs s.gens->qF g f hs ⟨loc,(S,.list ys)::H⟩ s->ys.length=j->(∀i x,ys[i]? =some x->val i x)->
   W9 g.M A (.builtin "list.extend.loop" ⟨[.ref S,.ref I,res],[]⟩) R s:=by
 intro k
 induction k with
 |zero=>
  intro j ys hs s hk hj u hi hl hv
  obtain rfl:j=len:=by exact (xJ [.ne VA KA,.nl VB VC,.ne (.a VA VB) VC] (.ne VB VC) [1,1,0,-1] [1,0,1,0] rfl hk hj (yn hj))
  refine Fs F.entry_extend_loop ?_
  rw [Around.under_plainId F.plain_extend_loop _]
  show yP _ A.in1 (DP (.ref I)>>=_) _ _ s
  refine yo (yK (w.stop s _ hs u hi (hP _)) (λr s' h=>?_) λe s' h=>?_)
  ·(refine qZ h λoo a2 hr=>?_;clear h;subst a2)
   exact yB (hR _ _ hl hv hr)
  ·refine xW h λoo oo oo oo hf oo=>?_
   exact nomatch hf
 |succ k ih=>
  intro j ys hs s hk hj u hi hl hv
  refine Fs F.entry_extend_loop ?_
  rw [Around.under_plainId F.plain_extend_loop _]
  show yP _ A.in1 (DP (.ref I)>>=_) _ _ s
  refine yo (yK (w.item j s _ hs (zN [.ne VA (.a VB KB),.ne (.a VA VC) VD] (.nt VC VD) [1,-1,1] rfl hk (yn hj)) u hi (hP _)) (λr s' h=>?_) λe s' h=>h.elim)
  (refine ja h λv x hs' a1 hr C Z a0=>?_;clear h;subst a1)
  refine qB (a0.toRep.list (.head _)) λus c hu e=>?_
  show yP _ A.in1 (Fg S (·.push v)>>=_) _ _ _
  refine yo ?_
  have J:us.toArray.size=j:=by rw [yJ,zg.length hu,hl]
  refine BX e rfl (yB (qa (plainId_quiet F.plain_extend_loop _) (ih (j+1) (ys++[x]) hs' _ (LA [_,_,_,_,_] [] [.ne VA (.a VB KB),.ne (.a VA VC) VD,.ne (.a VE (.a VC KB)) VD] (.ne VE VB) [1,-1,1,-1] [1,1,-1,1] rfl hk (yn hj) (yn (zN [.ne VA (.a VB KB),.ne (.a VA VC) VD] (.nl (.a VC KB) VD) [1,-1,1] rfl hk (yn hj)))) (zN [.ne VA (.a VB KB),.ne (.a VA VC) VD] (.nl (.a VC KB) VD) [1,-1,1] rfl hk (yn hj)) Z (a0.list1 (vs:=us++[v]) (hu.append (.cons hr .nil)) (Heap.SameBut.update ..) (?_:Heap.get? _ S=some (Bi _ (c+1)))) (by rw [yS,hl];rfl) λi y hy=>?_))) (by rw [J,Wp];exact (ls1 hz hj rfl)) (by show (us.toArray.push v).size<=Be+1;rw [Array.size_push,J,Wp];exact (qq [.nl VA KT,.nl VB VA] (.nl (.a VB KB) (.a KT KB)) rfl hz hj))
  ·rw [Heap.get?_update_self _ e (by rw [mapSeq_push];rfl),mapSeq_push,D0]
  ·refine Or.elim (W5 i ys.length) (λh=>?_) λh=>?_
   ·exact hv i y ((Ww h).symm.trans hy)
   ·rw [Wn h] at hy
    obtain ⟨a3,e⟩:=Wb.mp hy
    have:i - ys.length=0:=by simpa using a3
    obtain rfl:i=j:=by exact (jA [.ne VA VB,.nl VA VC,.ne VD KA,.ne (.a VD VA) VC] (.ne VC VB) [1,-1,1,0,0] [1,1,0,1,-1] rfl hl h this (yn h))
    rw [List.getElem_singleton] at e
    exact e ▸ C
theorem Jb (w : j8 g f I A.in1 len val obj P true X) (hz : len <= 16777216) (hP : ∀ ys, P ⟨loc, (S, .list ys) :: H⟩) (hself : ∀ hs (s : yF), obj 0 hs s.gens -> (∀ p ∈ hs, s.heap.get? p.1 = some p.2) -> ∃ k, s.heap.IsGen I k)
    (hR : ∀ xs s', xs.length = len -> (∀ i x, xs[i]? = some x -> val i x) -> Rep g f ⟨loc, (S, .list xs) :: H⟩ s' -> R (.ok (.ret .none)) s') (hob : obj 0 hs s.gens) (hi : qF g f hs ⟨loc, (S, .list []) :: H⟩ s) :
    yP g.M A.in1 (Builtin.«list.__init__» ⟨[.ref S, .ref I], []⟩)
      (λfin s' => match fin with | .done f => R (.ok f) s' | .again c' => c'.quiet = true /\ W9 g.M A c' R s') (λe s' => R (.error e) s') s := by
  refine qB (hi.toRep.list (.head _)) λus c hu e =>?_
  obtain rfl := hu
  refine qA (hself hs s hob hi.there) λkG hG =>?_
  have hSI : S ≠ I := λq => by
    refine kT hG λo nm qn h1 h2 oo =>?_
    rw [<- q, e] at h1
    obtain rfl := Wc.inj h1
    exact (show Value.type "list" ≠ Value.type "generator" by decide) h2
  show yP g.M A.in1 (do let old <- Builtin.List.listItems (.ref S); Builtin.List.listUpdate (.ref S) (λoo => #[]); letGo old.toList.reverse; Builtin.List.listExtendWith (.ref S) (.ref I) .none) _ _ s
  refine yo ?_
  unfold Builtin.List.listItems
  refine yo (DZ e rfl (yB ?_))
  show yP g.M A.in1 (Fg S (λoo => #[]) >>= λoo => letGo (#[] : Array yr).toList.reverse >>= λoo => Builtin.List.listExtendWith (.ref S) (.ref I) .none) _ _ s
  refine yo (BX e rfl ?_)
  have hS₂ := Heap.get?_update_self (Obj.mapSeq (λoo => (#[] : Array yr))) e rfl
  refine yo (HH ?_)
  have i₂ : qF g f hs ⟨loc, (S, .list []) :: H⟩ { s with heap := s.heap.update S (Obj.mapSeq (λoo => (#[] : Array yr))) } := hi.list1 (vs := []) .nil (Heap.SameBut.update ..) hS₂
  unfold Builtin.List.listExtendWith
  obtain ⟨_, hG₂⟩ := hself hs { s with heap := s.heap.update S (Obj.mapSeq (λoo => (#[] : Array yr))) } hob i₂.there
  refine yo (DQ hG₂.typeIs ?_)
  have h1 : Builtin.List.listSameRef (.ref S) (.ref I) = false := by show (S == I) = false; exact beq_false_of_ne hSI
  have h2 : (Value.type "generator" == Value.type "list") = false := by decide
  have h3 : (Value.type "generator" == Value.type "tuple") = false := by decide
  simp -iota only [h1, h2, h3, HW, FT, if_false]
  refine yo (Dx hG₂ ?_)
  refine yo (Wr ?_)
  unfold Builtin.List.listLengthHint
  refine yo (WH hG₂.typeIs F.gen_no_len ?_)
  show yP _ A.in1 (specialOf (Value.ref I) (qS "__length_hint__") >>= _) _ _ _
  refine yo (WH hG₂.typeIs F.gen_no_hint ?_)
  refine yB ?_
  show yP _ A.in1 (rule "list.extend.makes-room" >>= λoo => Builtin.List.listTouch (.ref S) >>= λoo =>
    again (.builtin "list.extend.loop" ⟨[.ref S, .ref I, .none], []⟩)) _ _ _
  refine yo (wpAny_rule ?_)
  refine yo ?_
  show yP _ A.in1 (Fg S (·.push .none) >>= λoo => Fg S (·.pop)) _ _ _
  refine yo (BX hS₂ rfl ?_)
  have hS₃ := Heap.get?_update_self (Obj.mapSeq (·.push Value.none)) hS₂ rfl
  refine BX (hz := by seq_fits) hS₃ rfl ?_
  have hS₄ := Heap.get?_update_self (Obj.mapSeq (·.pop)) hS₃ rfl
  refine yB (qa (plainId_quiet F.plain_extend_loop _) (JX w hz hP hR len 0 [] hs _ (Nat.sub_zero _) (WI _) hob (i₂.list1 (vs := []) .nil ((Heap.SameBut.update ..).trans (Heap.SameBut.update ..)) hS₄) rfl λi x hx => by simp at hx))
theorem XI {E:yr->yF->Prop} (w:j8 g f I A.in1.in1 len val obj P true X) (hz:len<=16777216) (hP: ∀D ys,P ⟨σ.loc,(D,.list ys)::σ.H⟩) (u: ∀hs (s:yF),obj 0 hs s.gens->(∀p∈hs,s.heap.get? p.1=some p.2)->∃k,s.heap.IsGen I k)
  (hQ: ∀D xs s',xs.length=len->(∀i x,xs[i]? =some x->val i x)->Rep g f ⟨σ.loc,(D,.list xs)::σ.H⟩ s'->Q (.ref D) s') (a1:obj 0 hs s.gens) (hi:qF g f hs σ s):
  yP g.M A (call (.type "list") [.ref I]) Q E s:=by
 refine callType_codes (Q₁:=λobj s₁=>obj= .ref s.heap.objs.size/\s₁={s with heap:=s.heap.push {cls:= .type "list",data:= .seq #[]}}) F.called_list (F.typeCall_list_1 _) F.entry_list_init
  (code_list_new _ (qa rfl rfl)) λobj s₁ h₁=>?_
 (refine qc h₁ λJ C=>?_;clear h₁;subst J;subst C)
 have hS:(s.heap.push {cls:= .type "list",data:= .seq #[]}).get? s.heap.objs.size=some {cls:= .type "list",data:= .seq #[]}:=Heap.get?_push_size _ rfl
 have big:=hi.toRep.big
 refine zk (hi.shut) λp sub Z a0=>?_
 have i₂:=qF.back sub big hi.free a0 (Z.push (o:= .list []) (obj:=Bi #[] 0) (qU [] 0 (.nil) rfl))
 refine qy (qj _ hS rfl) (F.args_list_init_2 _ _) (Jb w hz (hP _) u (λxs s' h1 h2 h3=>?_) a1 i₂)
 exact qa rfl (hQ _ xs s' h1 h2 h3)
end
noncomputable section
section
variable {g:G} {f:Fx} {n:Nat} {E:QE} {σ:St} {mg mb:Str->Option yr} {R:y9->yr->yF->Prop}
theorem Xp
  (h:WR g f n t (λA v s'=>∀C,yP g.M A (zb C m [v] []) (R A) (EP g f E) s') E σ):WR g f n (DN p m [] [(false,t)] []) R E σ:=λA s hA hs=>by
 unfold DN evalArgs
 refine yo (Wr ?_)
 refine yo (show yP g.M A (t>>=λv=>pure [v]>>=λu=>holding u (pure [])>>=λz=>pure (u++z)) _ _ s from ?_)
 refine yo (yK (h A s hA hs) (λv s' h=>?_) λoo oo h=>h)
 refine yo (yB (yo (Wr (yB (yB ?_)))))
 refine yo (yB ?_)
 refine Wr ?_
 rw [if_pos (show (([]:List (Option Str × Sem yr)).all λx=>x.1.isSome)=true from rfl)]
 refine yo (yB (yo (yB (yB ?_))))
 refine yo (Bh ?_)
 have:=h (decide ([(false,t)].length+2*([]:List (Option Str × Sem yr)).length>30))
 unfold zb at this
 simp only [decide_eq_true_eq] at this
 exact this
theorem kE {Q E:yr->yF->Prop} (hk:keeperOf a=pure Keeper.machine) (h:yP g.M A (call a vs kw) Q E s):yP g.M A (zb few a vs kw) Q E s:=by
 unfold zb
 rw [hk]
 refine yo (yB ?_)
 dsimp only
 exact yo (yK h (λr s₂ hr=>yo (Wr (DA (yB hr)))) λoo oo x=>x)
end
abbrev xQ (g:G) (f:Fx) (n:Nat) (fn:V) (m:V × List V) (xs:List V) (ks:List (Nat × V)) (Q:QV) (E:QE) (σ:St):Prop:=
 Xf m xs ks g f n (λA r s'=>∀fv few,VR g fn fv->yP g.M A (zb few fv [r] []) (λv s'=>∃x σ',VR g x v/\Rep g f σ' s'/\Q x σ') (EP g f E) s') E σ
namespace E
@[reducible] noncomputable def callG (fn o:EX) (i:Nat) (as:List EX) (ks:List (Nat × EX × Nat)) (ap q p:Nat):EX:= .of (λN=> .Call (fn.ast N) [(meth o i as ks ap q).ast N] [] (P p)) (λN=>kd (fn.ast N) !=3 && fn.chk N && (meth o i as ks ap q).chk N)
 (λg f n Q E σ=>fn.wp g f n (λv σ=>o.wp g f n (λx σ=>zE g f n x i (λm σ=>wEs g f n as (λxs σ=>wKs g f n ks (λkvs σ=>xQ g f n v m xs kvs Q E σ) E σ) E σ) E σ) E σ) E σ)
 (λ{g f n mg mb} gk ok hc {Q E σ} w=>by
  refine qc (qh hc) λh1 h3=>?_
  refine qc (qh h1) λh1 h2=>?_
  show W g f n (VR g) (eval (.Call (fn.ast _) [(meth o i as ks ap q).ast _] [] (P p)) f.env) Q E σ
  rw [kV h1]
  refine qu (fn.snd gk ok h2 w) λx σ h v hv=>?_
  refine WR_W (Xp (R:=λoo v s'=>∃x σ',VR g x v/\Rep g f σ' s'/\Q x σ') λA s hA hs=>yK (X1 gk ok h3 h A s hA hs) (λr s' h few=>h v few hv) λoo oo h=>h)) λoo oo oo=>rfl
end E
section
variable {g:G} {f:Fx} {n:Nat} {E:QE} {σ:St} {mg mb:Str->Option yr} {Q:QV}
theorem AOk.in2 (h:AOk f n A):AOk f (n+2) A.in1.in1:=⟨h.frames,yU h.units 2,yX h.depth (Nat.le_add_right _ _),h.hd,h.guards⟩
theorem xQ.list (gk:GOk g mg mb) (ok:FOk g f) (hh:f.hd=none) (I:n+2<W1) {ps:List (Nat × V)} (F:Qp g fa slots d) (hm:m.1= .fix (.ref fa)) (hb:Binds g fa (m.2++xs) [] ps) (aa:x8 (ps.map (·.1))=true) (ab:(ps.all λp=>slots.contains p.1)=true)
    (G:Zc g (n+2+9) slots d ps len true X val Need) (hz:len<=16777216) (hN: ∀D ys,Need ((D,.list ys)::σ.H))
  (hq: ∀D ys,ys.length=len->(∀i y,ys[i]? =some y->val i y)->Q (.ref D) ⟨σ.loc,(D,.list ys)::σ.H⟩):xQ g f n (.fix (.type "list")) m xs [] Q E σ:=Op.mk λaj a vs kw ha hv hk=>by
 rw [hm] at ha
 cases ha
 obtain ⟨hB,u,a0⟩:=F
 unfold Yn at hB
 unfold Binds at hb
 unfold fdO at u hb
 obtain ⟨oc,od,fd,ai,hl,hB⟩:=XE hB
 rw [hl] at u hb
 refine qc (qh hB) λh1 h3=>?_
 refine qc (qh h1) λh1 h2=>?_
 have C:=wI h2
 refine jp (λA s hA hs=>keeps_K a0 s.heap (hs.kin gk ok)) λA s hA hs=>?_
 refine qf (G.run) λa7 J a3=>?_
 refine Dv (kS gk ok hl h1 u C (WJ hA.depth (qq [.nt (.a VA KC) VB] (.nt VA VB) rfl I)) (λs vs kw Z hv hk=>?_) (zu aa) (λp hp=>WK.mp (yY.mp ab p hp)) hs hv hk λa L o' m0 t s' a5 hi hn a6 hg=>?_)
 ·refine qf (hb vs kw hv hk) λa1 e1 e2=>?_
  exact qj a1 (λM A E Q hq=>xp (λa o e=>Z a o (gk.k a o e)) hq 9 _ e1) e2
 intro fv ag ac
 cases ac
 have hk:g.gens.size<=s.gens.size:=hs.gx.size
 have Z:s'.gens[s.gens.size]? =some (.fresh (.func (d.ast ⟨g.tab,fd.scope.names,slots⟩) (Bu fd.scope L fd.globals fd.closure (fd.qualname++".<locals>.") (some fa) fd.code none fd.builtins))):=by rw [hg];exact B7
 have ge:kg g (Bu fd.scope L fd.globals fd.closure (fd.qualname++".<locals>.") (some fa) fd.code none fd.builtins) L slots:=C.ev
 refine kE rfl ?_
 refine XI (σ:=σ) (JA (A:=A.in1.in1) (nm:= .str fd.name t) (qn:= .str fd.qualname (t+1)) (d:=d) (env:=Bu fd.scope L fd.globals fd.closure (fd.qualname++".<locals>.") (some fa) fd.code none fd.builtins) (val:=val) (X:=X) (fine:=true) (len:=len) (Need:=Need) (P:=λσ=>Need σ.H) gk ok hh hA.in2 I ge a5 rfl hk G.stop (λσ h=>h)) hz hN (λhs s₀ a4 ht=>?_) (λD ys s₂ e1 e2 hr=>(qe _ _ (.ref) hr (hq D ys e1 e2))) ?_ hi
 ·(refine zc a4 λo mG loc a8=>?_;refine wh a8 λst c₀ t₀ fs₀ a9 oo=>?_;clear a4;subst a9)
  exact XZ _ _ _ _ (ht (a,_) (.head _)) rfl rfl rfl
 refine qW o' m0 _ (qW _ _ _ (vm _ rfl hn a6 Z (.inl (qy rfl rfl rfl)) (λaf f' A' P' H' ah e1 e2 cx ae a2=>?_)))
 subst e2
 have x1:=cx.2.one
 exact j6 gk C.co (by unfold Bm;rw [show (Bu fd.scope L fd.globals fd.closure (fd.qualname++".<locals>.") (some fa) fd.code none fd.builtins).scope.kind= .function from C.kind];rfl) h3 a7 J cx a2 (a3 af f' x1.ok x1.hd e1 ae)
end
end
section
variable {g:G} {f:Fx} {n:Nat} {mg mb:Str->Option yr} {σ:St} {s:yF} {E:QE} {A:y9} {Q:QV}
theorem Js (gk:GOk g mg mb) (ok:FOk g f) (hh:f.hd=none) {tg:TG}
  (w:j8 g (f.comp g ns slots C m f.prot) I A len val obj PW true X) (a1: ∀k hs (s:yF),obj k hs s.gens->(∀p∈hs,s.heap.get? p.1=some p.2)->∃k,s.heap.IsGen I k)
  {el it:EX} (Inv:Nat->List V->List (yu × O)->Prop) (hP: ∀k ys H loc,Inv k ys H->PW ⟨loc,(D,.list ys)::H⟩)
  (h1:slots.Nodup) (h2: ∀k∈slots,k<g.tab.length) (h3: ∀q∈ns,q.1<g.tab.length)
  (a2: ∀gs p k x v ys H loc,FOk (g.gen gs) (f.comp g ns slots C m p)->k<len->val k x->VR (g.gen gs) x v->Inv k ys H->loc.length=slots.length->
   W (g.gen gs) (f.comp g ns slots C m p) n (VR (g.gen gs)) (Bl (tg.ast ((f.nmOf g).comp ns slots)) (f.comp g ns slots C m p).env v>>=λoo=>eval (el.ast ((f.nmOf g).comp ns slots)) (f.comp g ns slots C m p).env) (λy σ'=>σ'.loc.length=slots.length/\WkH (Inv (k+1) (ys++[y])) σ'.H) (λoo oo=>False) ⟨loc,H⟩)
  (hz: ∀k ys H,Inv k ys H->ys.length<=16777216) (hR: ∀s' ys H' loc,Inv len ys H'->Rep g (f.comp g ns slots C m f.prot) ⟨loc,(D,.list ys)::H'⟩ s'->R (.ok .next) s')
    (hl:loc.length=slots.length) (hA:AOk f n A) (ho:obj 0 hs s.gens) (hi:qF g (f.comp g ns slots C m f.prot) hs ⟨loc,(D,.list [])::H⟩ s) (h0:Inv 0 [] H):
  W9 g.M A (.compStart (.ListComp (el.ast ((f.nmOf g).comp ns slots)) [⟨tg.ast ((f.nmOf g).comp ns slots),it.ast (f.nmOf g),[],0⟩] (qE (f.nmOf g) ns) (P pp)) 0 (.ref I) (.ref D) (f.comp g ns slots C m f.prot).env) R s:=by
 have hd:A.handled=none:=hA.hd.trans hh
 have loop:W9 g.M A (.compLoop (.ListComp (el.ast ((f.nmOf g).comp ns slots)) [⟨tg.ast ((f.nmOf g).comp ns slots),it.ast (f.nmOf g),[],0⟩] (qE (f.nmOf g) ns) (P pp)) 0 (.ref I) (.ref D) (f.comp g ns slots C m f.prot).env) R s:=by
  refine wR (λk' s'=>∃k loc ys H hs,k<=len/\k'=len - k/\obj k hs s'.gens/\loc.length=slots.length/\qF g (f.comp g ns slots C m f.prot) hs ⟨loc,(D,.list ys)::H⟩ s'/\Inv k ys H) (λk' s' hI=>?_) len (qW 0 loc [] (Xg H hs (WI _) rfl ho hl hi h0))
  (refine zc hI λk z ys ac=>?_;refine Jn ac λH hs hk ae a6 hl a8 hv=>?_;clear hI;subst ae)
  refine Or.elim (W5 k len) (λJ=>?_) λaj=>?_
  ·refine yK (w.item k s' _ hs J a6 a8 (hP _ _ _ _ hv)) (λr s₁ h₁=>?_) λoo oo h=>h.elim
   (refine ja h₁ λv x hs' ab hr a4 a0 F=>?_;clear h₁;subst ab)
   dsimp only
   refine qf (w.gen s₁ ⟨_,_,a0,F.there⟩) λoI al ak=>?_
   refine jv al (by rw [ak];decide) ?_
   have big:=F.toRep.big
   have gx:=F.gx
   refine zk (F.shut) λp sub ah ai=>?_
   refine zk (Rep.hideL ah) λp₂ a3 a5 back=>?_
   have af:FOk g (f.comp g ns slots C m p₂):=ok.comp gk (λb o e=>a3 _ _ (sub _ _ e)) h1 h2 h3
   have am:AOk (f.comp g ns slots C m p₂) n A:=⟨hA.frames,hA.units,hA.depth,hA.hd,hA.guards⟩
   refine yK (a2 s₁.gens p₂ k x v ys H z af.gen J a4 (by rw [xH];exact hr) hv hl A s₁ am a5.gen) (λy s₃ h₃=>?_) λe s₂ h=>h.elim λoo h=>h.elim λoo h=>h.2.2.elim
   (refine xW h₃ λyv σ₃ hy u ag aa=>?_;refine qk aa λH₁ H₂ q1 q2 a7=>?_)
   have g3:=u.gx
   have u:=u.ungen gx
   refine kh (g:=g.gen s₃.gens) (back _ _ (Rep.sub (Rep.perm (σ:=σ₃) u q1) q2)).gen (by rw [xH] at hy |-;exact hy) (hz _ _ _ hv) λs₄ Z=>?_
   exact qj (len - (k+1)) (by exact (zN [.ne (.a VA (.a VB KB)) VC,.ne (.a VD VB) VC] (.nt VA VD) [1,1,-1] rfl (yn (qq [.nt VA VB] (.nl (.a VA KB) VB) rfl J)) (yn hk))) (qW (k+1) σ₃.loc _ (Xg H₂ hs' J rfl (w.keep _ _ _ _ (w.keep _ _ _ _ a0 g3) Z.gx) ag (qF.back sub big F.free ai (Z.ungen (gx.trans g3))) a7))
  ·obtain rfl:k=len:=B9 hk aj
   refine yK (w.stop s' _ hs a6 a8 (hP _ _ _ _ hv)) (λr s₁ h₁=>?_) λe s₁ h=>?_
   ·(refine qZ h₁ λoo a9 hr=>?_;clear h₁;subst a9)
    dsimp only
    exact hR _ _ _ _ hv hr
   ·refine xW h λoo oo oo oo hf oo=>?_
    exact nomatch hf
 refine qA (a1 0 hs s ho hi.there) λoo hG=>?_
 exact D4 loop (Dx hG loop)
theorem Ux (gk:GOk g mg mb) (ok:FOk g f) (hh:f.hd=none)
  (a8:xg (f.cells.lookup ·) ns=true) (hc:ZM (f.nmOf g) ns slots tg it el=true)
  (w: ∀f',FOk g f'->f'.hd=none->AOk f' n A->j8 g f' I A len val obj PW true X) (J: ∀k hs (s:yF),obj k hs s.gens->(∀p∈hs,s.heap.get? p.1=some p.2)->∃k,s.heap.IsGen I k)
  (Inv:Nat->List V->List (yu × O)->Prop) (hP: ∀k ys H loc D,Inv k ys H->PW ⟨loc,(D,.list ys)::H⟩)
  (a5:el.chk ((f.nmOf g).comp ns slots)=true->tg.chk ((f.nmOf g).comp ns slots)=true->∀gs p m C k x v ys H loc,FOk (g.gen gs) (f.comp g ns slots C m p)->k<len->val k x->VR (g.gen gs) x v->Inv k ys H->loc.length=slots.length->
   W (g.gen gs) (f.comp g ns slots C m p) n (VR (g.gen gs)) (Bl (tg.ast ((f.nmOf g).comp ns slots)) (f.comp g ns slots C m p).env v>>=λoo=>eval (el.ast ((f.nmOf g).comp ns slots)) (f.comp g ns slots C m p).env) (λy σ'=>σ'.loc.length=slots.length/\WkH (Inv (k+1) (ys++[y])) σ'.H) (λoo oo=>False) ⟨loc,H⟩)
  (hz: ∀k ys H,Inv k ys H->ys.length<=16777216) (h0:Inv 0 [] σ.H) (a9: ∀ys H D,Inv len ys H->Q (.ref D) ⟨σ.loc,(D,.list ys)::H⟩)
   (hu:JS g f n use Q Q') (hA:AOk f n A) (ho:obj 0 hs₀ s.gens) (hi:qF g f hs₀ σ s):
  yP g.M A (Br (kB (f.nmOf g) ns slots tg it el pp) (qE (f.nmOf g) ns) f.env (B6 [⟨tg.ast ((f.nmOf g).comp ns slots),it.ast (f.nmOf g),[],0⟩] (P pp)) (Ff []) false (pure (.ref I)) use) (λv s'=>∃y σ',VR g y v/\Rep g f σ' s'/\Q' y σ') (EP g f E) s:=by
 refine qA (J 0 hs₀ s ho hi.there) λkG hG=>?_
 unfold ZM at hc
 refine qc (qh hc) λhc c9=>?_
 refine qc (qh hc) λhc c8=>?_
 refine qc (qh hc) λhc c7=>?_
 refine qc (qh hc) λhc c6=>?_
 refine qc (qh hc) λhc c5=>?_
 refine qc (qh hc) λhc c4=>?_
 refine qc (qh hc) λhc c3=>?_
 refine qc (qh hc) λc1 c2=>?_
 have h1:=zu c1
 have h2: ∀k∈slots,k<g.tab.length:=λk hk=>yL.mp (yY.mp c2 k hk)
 have h3: ∀q∈ns,q.1<g.tab.length:=λk hk=>yL.mp (yY.mp c3 k hk)
 have h4: ∀y∈(qE (f.nmOf g) ns).names,y.2≠.cell:=λy hy=>by
  (refine qf (yD.mp hy) λp hp ab=>?_;subst ab)
  have:=yY.mp c4 p hp
  intro e
  simp only at e
  rw [e] at this;exact absurd this (by decide)
 have h5: ∀y∈(qE (f.nmOf g) ns).names,y.2= .local->(qE (f.nmOf g) ns).names.lookup y.1=some .local:=λy hy hl=>by
  (refine qf (yD.mp hy) λp hp z0=>?_;subst z0)
  have:=yY.mp c5 p hp
  simp only at hl
  rw [hl] at this
  refine Or.elim (BF.mp this) (λh=>?_) λh=>?_
  ·exact absurd h (by decide)
  ·exact eq_of_beq h
 refine DS rfl (k7 c6 _) (zM ok a8) rfl h5 (yB (Dx hG ?_))
 refine zk (hi.shut) λp sub hr ah=>?_
 have big:=hi.toRep.big
 have ag:=hr.push (o:= .list []) (obj:=Bi #[] 0) (qU [] 0 (.nil) rfl)
 refine FY ?_ (by decide)
 refine By h4 (by intro y hy;simp at hy) (λh' ai af=>?_) rfl
 refine qf (ag.toG) λm hG hL=>?_
 have R2:=hG.laid (s':={s with heap:=h',toks:=s.toks+([]:List (Str × yr)).length}) (f:=f.comp g ns slots (s.heap.push (Bi #[] 0)).objs.size m p) (loc:=slots.map λoo=>none) (l:=[]) (val:=λoo=>none) ⟨(jH _ _ rfl),ai,λb o e=>af.extBut b o (BP (Heap.lt_size e)) (Heap.get?_push_of_some _ e),yM _⟩
  (λp hp=>(yI hp).elim) WW (λp hp=>(yI hp).elim) rfl rfl rfl (λi k x e1 e2=>by have:=(QB (φ:=λoo=>none) e1).symm.trans e2;cases this)
 have aj:qF g (f.comp g ns slots (s.heap.push (Bi #[] 0)).objs.size m f.prot) hs₀ ⟨slots.map λoo=>none,(s.heap.objs.size,.list [])::σ.H⟩ {s with heap:=h',toks:=s.toks+([]:List (Str × yr)).length}:=qF.back sub big hi.free ah R2
 have a3:FOk g (f.comp g ns slots (s.heap.push (Bi #[] 0)).objs.size m f.prot):=ok.comp gk (λb o e=>e) h1 h2 h3
 refine Js gk ok hh (w _ a3 hh ⟨hA.frames,hA.units,hA.depth,hA.hd,hA.guards⟩) J Inv (λk ys H loc h=>hP k ys H loc _ h) h1 h2 h3 (λgs p k x v ys H loc a3 hk hx hr hv hl=>a5 c8 c9 gs p m _ k x v ys H loc a3 hk hx hr hv hl) hz (λs' ys H' loc ae a6=>?_) (yq ..) hA ho aj h0
 (refine Qn (Rep.compLeave (f:=f) (loc:=σ.loc) a6 hL) λp' F a4 fC z1=>?_;refine qB z1 λoC mC a0 a2=>?_)
 have hq:=a9 ys H' s.heap.objs.size ae
 cases use with
 |none=>
  refine qk a2 λes ep k1 k2 k3=>?_
  exact qj mC (xi oC es ep (a4.stays _ _ a0) k1 k2 k3) (λaa Z=>(qe _ _ (.ref) (a4.butC F big a0 fC Z) (hu _ _ hq)))
 |some u=>
  refine yK (hu p' _ _ (.ref s.heap.objs.size) (ok.at F) hq .ref A s' hA.at a4) (λoo ac aa=>?_) λe ac h=>h.elim λoo h=>h.elim λoo h=>h.2.2.elim
  refine qk aa λoo ak oo a1 a7=>?_
  refine qk a2 λes ep k1 k2 k3=>?_
  exact qj mC (xi oC es ep (a1.stays _ _ a0) k1 k2 k3) (λh3 Z=>(qe _ _ (.none) (a1.butC F big a0 fC Z) a7))
end
noncomputable section
abbrev kQ (g:G) (f:Fx) (n:Nat) (m:V × List V) (xs:List V) (ks:List (Nat × V)) (ns:List (Nat × WD)) (slots:List Nat) (tg:TG) (it el:EX) (pe:Nat) (Q:QV) (E:QE) (σ:St):Prop:=
 Xf m xs ks g f n (λA r s'=>ZM (f.nmOf g) ns slots tg it el=true->∀use Q',JS g f n use Q Q'->
  yP g.M A (Br (kB (f.nmOf g) ns slots tg it el pe) (qE (f.nmOf g) ns) f.env (B6 [⟨tg.ast ((f.nmOf g).comp ns slots),it.ast (f.nmOf g),[],0⟩] (P pe)) (Ff []) false (pure r) use) (λv s'=>∃y σ',VR g y v/\Rep g f σ' s'/\Q' y σ') (EP g f E) s') E σ
namespace S
@[reducible] noncomputable def aclG (i q₀:Nat) (ns:List (Nat × WD)) (slots:List Nat) (tg:TG) (o:EX) (im:Nat) (as:List EX) (ks:List (Nat × EX × Nat)) (ap q:Nat) (el:EX) (pe p:Nat):SX:=⟨λN=> .Assign [(TG.one i q₀).ast N] (kB N ns slots tg (Mine.Internal.E.meth o im as ks ap q) el pe) (P p),λN=>N.isLoc i && ZM N ns slots tg (Mine.Internal.E.meth o im as ks ap q) el && ((P q₀).line==(P pe).line) && ns.all (λz=> !(N.nm z.1==N.nm (N.slot i))),
 λg f n Q E σ=>o.wp g f n (λx σ=>zE g f n x im (λm σ=>wEs g f n as (λxs σ=>wKs g f n ks (λkvs σ=>kQ g f n m xs kvs ns slots tg (Mine.Internal.E.meth o im as ks ap q) el pe (λy σ=>wTg g f n (.one i q₀) y (λσ=>Q .next σ) (λoo oo=>False) σ) E σ) E σ) E σ) E σ) E σ,
 λ{g f n mg mb} gk ok hc {Q E σ} w=>by
  refine qc (qh hc) λhc c4=>?_
  refine qc (qh hc) λhc c3=>?_
  refine qc (qh hc) λc1 c2=>?_
  have c7:(Mine.Internal.E.meth o im as ks ap q).chk (f.nmOf g)=true:=by
   have:=c2
   unfold ZM at this
   exact (qh (qh (qh this).1).1).2
  refine Qn (slot_of c1) λk e1 e2 e3 e4=>?_
  have hsw:FN (kB (f.nmOf g) ns slots tg (Mine.Internal.E.meth o im as ks ap q) el pe) (some (.Name ((f.nmOf g).nm ((f.nmOf g).slot i)) (P q₀))) (P p).line f.env=pure true:=by
   show (pure (f.env.blockKind== .function && f.env.kindOf ((f.nmOf g).nm ((f.nmOf g).slot i))==some .local && (P q₀).line==(P pe).line
    && !((qE (f.nmOf g) ns).names.any λ(n,k)=>n==((f.nmOf g).nm ((f.nmOf g).slot i)) && (k== .local||k== .cell))):Sem Bool)=pure true
   have b1:(f.env.blockKind== .function)=true:=by unfold Env.blockKind;rw [ok.kind];decide
   have b2:(f.env.kindOf ((f.nmOf g).nm ((f.nmOf g).slot i))==some .local)=true:=by rw [e3];decide
   have b3:((qE (f.nmOf g) ns).names.any λ(n,k)=>n==((f.nmOf g).nm ((f.nmOf g).slot i)) && (k== .local||k== .cell))=false:=by
    rw [F4]
    intro y hy
    (refine qf (yD.mp hy) λz hz z2=>?_;subst z2)
    have:=not_true (yY.mp c4 z hz)
    simp only [this,DX]
    decide
   rw [b1,b2,b3,c3];rfl
  show W g f n (FR g) (exec (.Assign [.Name ((f.nmOf g).nm ((f.nmOf g).slot i)) (P q₀)] (kB (f.nmOf g) ns slots tg (Mine.Internal.E.meth o im as ks ap q) el pe) (P p)) f.env) Q E σ
  rw [exec_Assign_Name_used _ _ _ _ hsw]
  refine qi ?_
  show W g f n (FR g) ((Br (kB (f.nmOf g) ns slots tg (Mine.Internal.E.meth o im as ks ap q) el pe) (qE (f.nmOf g) ns) f.env (B6 [⟨tg.ast ((f.nmOf g).comp ns slots),(Mine.Internal.E.meth o im as ks ap q).ast (f.nmOf g),[],0⟩] (P pe)) (Ff []) false (eval ((Mine.Internal.E.meth o im as ks ap q).ast (f.nmOf g)) f.env) (some (Bl (.Name ((f.nmOf g).nm ((f.nmOf g).slot i)) (P q₀)) f.env))>>=λoo=>pure ())>>=λoo=>pure Flow.next) Q E σ
  rw [zx]
  refine λA s hA hs=>yo (yo (yo (yK (X1 gk ok c7 w A s hA hs) (λr s' h=>?_) λoo oo h=>h)))
  refine yK (h c2 (some _) (λoo σ=>Q .next σ) λp y σ v okp hq hv=>?_) (λv s'' h=>?_) λoo oo h=>h
  ·exact zD gk okp (.one i q₀) c1 hv hq
  ·refine qk h λoo σ' oo hr hq=>?_
   exact yB (yB ⟨.next,σ',rfl,hr,hq⟩)⟩
end S
section
variable {g:G} {f:Fx} {n:Nat} {E:QE} {σ:St} {mg mb:Str->Option yr} {Q:QV}
theorem kQ.of (gk:GOk g mg mb) (ok:FOk g f) (hh:f.hd=none) (I:n<W1) {ps:List (Nat × V)} (F:Qp g fa slots d) (hm:m.1= .fix (.ref fa)) (hb:Binds g fa (m.2++xs) [] ps) (af:x8 (ps.map (·.1))=true) (ag:(ps.all λp=>slots.contains p.1)=true)
    (G:Zc g (n+9) slots d ps len true X val Need) (J:sl.length=1) (aa:xg (f.cells.lookup ·) ns=true) (Inv:Nat->List V->List (yu × O)->Prop) (hN: ∀k ys H D,Inv k ys H->Need ((D,.list ys)::H))
  (a2: ∀gs p m C k x ys H,FOk (g.gen gs) (f.comp g ns sl C m p)->k<len->val k x->Inv k ys H->el.wp (g.gen gs) (f.comp g ns sl C m p) n (λy σ'=>(∃z,σ'.loc=[z])/\Inv (k+1) (ys++[y]) σ'.H) (λoo oo=>False) ⟨[some x],H⟩)
  (hz: ∀k ys H,Inv k ys H->ys.length<=16777216) (h0:Inv 0 [] σ.H) (ab: ∀ys H D,Inv len ys H->Q (.ref D) ⟨σ.loc,(D,.list ys)::H⟩):kQ g f n m xs [] ns sl (.one 0 q) it el pe Q E σ:=Op.mk λan a vs kw ha hv hk=>by
 rw [hm] at ha
 cases ha
 obtain ⟨hB,u,a1⟩:=F
 unfold Yn at hB
 unfold Binds at hb
 unfold fdO at u hb
 obtain ⟨oc,od,fd,am,hl,hB⟩:=XE hB
 rw [hl] at u hb
 refine qc (qh hB) λh1 h3=>?_
 refine qc (qh h1) λh1 h2=>?_
 have C:=wI h2
 refine jp (λA s hA hs=>keeps_K a1 s.heap (hs.kin gk ok)) λA s hA hs=>?_
 refine qf (G.run) λac Z a6=>?_
 refine Dv (kS gk ok hl h1 u C (WJ hA.depth I) (λs vs kw a0 hv hk=>?_) (zu af) (λp hp=>WK.mp (yY.mp ag p hp)) hs hv hk λa L o' m0 t s' a8 hi hn a9 hg=>?_)
 ·refine qf (hb vs kw hv hk) λa3 e1 e2=>?_
  exact qj a3 (λM A E Q hq=>xp (λa o e=>a0 a o (gk.k a o e)) hq 9 _ e1) e2
 intro hc use Q' hu
 have hk:g.gens.size<=s.gens.size:=hs.gx.size
 have a0:s'.gens[s.gens.size]? =some (.fresh (.func (d.ast ⟨g.tab,fd.scope.names,slots⟩) (Bu fd.scope L fd.globals fd.closure (fd.qualname++".<locals>.") (some fa) fd.code none fd.builtins))):=by rw [hg];exact B7
 have ge:kg g (Bu fd.scope L fd.globals fd.closure (fd.qualname++".<locals>.") (some fa) fd.code none fd.builtins) L slots:=C.ev
 refine Ux (σ:=σ) (len:=len) (val:=val) (X:=X) (PW:=λσ=>Need σ.H) gk ok hh aa hc (λf' ae hf aj=>JA (A:=A) (nm:= .str fd.name t) (qn:= .str fd.qualname (t+1)) (d:=d) (env:=Bu fd.scope L fd.globals fd.closure (fd.qualname++".<locals>.") (some fa) fd.code none fd.builtins) (fine:=true) (Need:=Need) (P:=λσ=>Need σ.H) gk ae hf aj I ge a8 rfl hk G.stop (λσ h=>h)) (λk hs s₀ a7 ht=>?_) Inv (λk ys H loc D h=>hN k ys H D h) (λah ht gs p m C k x v ys H loc a4 hk hx hr hv hl=>?_) hz h0 ab hu hA ?_ hi
 ·(refine zc a7 λo mG loc z4=>?_;refine wh z4 λst c₀ t₀ fs₀ z3 oo=>?_;clear a7;subst z3)
  exact XZ _ _ _ _ (ht (a,_) (.head _)) rfl rfl rfl
 ·rw [J] at hl |-
  rcases loc with _|⟨z,_|_⟩<;>first|(cases hl;done)|skip
  refine xG (wc (g:=g.gen gs) gk.gen ok.gen a4 ah ht hr (show wTg (g.gen gs) _ n (.one 0 q) _ _ _ ⟨[z],H⟩ from a2 gs p m C k x ys H a4 hk hx hv)) (λy σ' h=>?_) λoo oo h=>h
  (refine qc h λz5 h=>?_;obtain ⟨z,e⟩:=z5)
  exact qa (by rw [e];rfl) (.of h)
 refine qW o' m0 _ (qW _ _ _ (vm _ rfl hn a9 a0 (.inl (qy rfl rfl rfl)) (λak f' A' P' H' al e1 e2 cx ai a5=>?_)))
 subst e2
 have x1:=cx.2.one
 exact j6 gk C.co (by unfold Bm;rw [show (Bu fd.scope L fd.globals fd.closure (fd.qualname++".<locals>.") (some fa) fd.code none fd.builtins).scope.kind= .function from C.kind];rfl) h3 ac Z cx a5 (a6 ak f' x1.ok x1.hd e1 ai)
end
end
noncomputable def u6 (l:List (Int × Nat × yu)):Obj:={cls:= .type "dict",data:= .dict (l.map λe=>⟨hashInt e.1,.int e.1 e.2.1,.ref e.2.2⟩).toArray l.length}
noncomputable def UZ (w:DV) (l:List (Str × Nat × Int × Nat)):Obj:={cls:= .type "dict",data:= .dict (l.map λe=>⟨hashStr w e.1,.str e.1 e.2.1,.int e.2.2.1 e.2.2.2⟩).toArray l.length}
section
variable {g:G} {f:Fx} {n:Nat} {mg mb:Str->Option yr} {σ:St} {s:yF} {E:QE} {A:y9} {Q:QV} {i j:Int}
/- dicts of the base -/
theorem Un (nd:(l.map (·.1)).Nodup):(u6 l).IsDictOf (intKind prog w) (l.map λe=>(e.1,.ref e.2.2)):=by
 refine ZW _ _ (qy rfl rfl rfl) rfl (λe he=>?_) ?_ ?_
 ·rw [List.mem_toArray] at he
  (refine qf (yD.mp he) λx oo z6=>?_;subst z6)
  exact qj x.1 (intKind_is _ _ _ _) rfl
 ·show Pairs _ (l.map _) _
  clear nd
  induction l with
  |nil=>exact .nil
  |cons a r ih=>exact .cons (intKind_is _ _ _ _) rfl ih
 ·rw [DO];exact nd
theorem JZ (nd:(l.map (·.1)).Nodup):(UZ w l).IsDictOf (strKind prog w) (l.map λe=>(e.1,.int e.2.2.1 e.2.2.2)):=by
 refine ZW _ _ (qy rfl rfl rfl) rfl (λe he=>?_) ?_ ?_
 ·rw [List.mem_toArray] at he
  (refine qf (yD.mp he) λx oo z7=>?_;subst z7)
  exact qj x.1 (F6 _ _ _ _) rfl
 ·show Pairs _ (l.map _) _
  clear nd
  induction l with
  |nil=>exact .nil
  |cons a r ih=>exact .cons (F6 _ _ _ _) rfl ih
 ·rw [DO];exact nd
theorem qG.baseI (gk:GOk g mg mb) (ok:FOk g f) (hK:g.K.lookup a=some (u6 l)) (nd:(l.map (·.1)).Nodup) (hx:FH (l.map λe=>(e.1,Value.ref e.2.2)) i=some (.ref b)) (h:Q (.ref b) σ):qG g f n (.ref a) (.int i) Q E σ:=
 have D: ∀s,Rep g f σ s->s.heap.DictOf (intKind g.prog g.w) a (l.map λe=>(e.1,.ref e.2.2)):=λs hs=>Heap.dictOf_iff.mpr (qj _ (hs.base ok _ _ (gk.k _ _ hK)) (Un nd))
 qG.of F3.lookup (λs v hs hv=>by obtain rfl:=hv;exact (D s hs).typeIs)<|Op.mk λv w hv hw A s hA hs=>by
  obtain rfl:=hv;(refine qA hw λoo z8=>?_;clear hw;subst z8)
  exact Hl (intKind_is _ _ _ _) (D s hs).mapOf hx (qe _ σ (.ref) (hs.toks _) h)
theorem qG.baseS (gk:GOk g mg mb) (ok:FOk g f) (hK:g.K.lookup a=some (UZ g.w l)) (nd:(l.map (·.1)).Nodup) (hx:FH (l.map λe=>(e.1,Value.int e.2.2.1 e.2.2.2)) (g.nm k)=some (.int i t)) (h:Q (.int i) σ):qG g f n (.ref a) (.sym k) Q E σ:=
 have D: ∀s,Rep g f σ s->s.heap.DictOf (strKind g.prog g.w) a (l.map λe=>(e.1,.int e.2.2.1 e.2.2.2)):=λs hs=>Heap.dictOf_iff.mpr (qj _ (hs.base ok _ _ (gk.k _ _ hK)) (JZ nd))
 qG.of F3.lookup (λs v hs hv=>by obtain rfl:=hv;exact (D s hs).typeIs)<|Op.mk λv w hv hw A s hA hs=>by
  obtain rfl:=hv;(refine qc hw λoo u=>?_;refine qA u λoo z9=>?_;clear hw;subst z9)
  exact Hl (F6 _ _ _ _) (D s hs).mapOf hx (qe _ σ (.int) (hs.toks _) h)
/- the same data -/
def Sm (H:List (yu × O)):Nat->V->V->Prop
 |0,x,y=>x=y/\(x= .none\/(∃b,x= .bool b)\/(∃i,x= .int i)\/∃b,x= .bytes b)
 |k+1,x,y=>(x=y/\(x= .none\/(∃b,x= .bool b)\/(∃i,x= .int i)\/∃b,x= .bytes b))\/
   ∃a b xs ys,x= .ref a/\y= .ref b/\(((a,O.list xs)∈H/\(b,O.list ys)∈H)\/((a,O.tup xs)∈H/\(b,O.tup ys)∈H))/\xs.length=ys.length/\∀(i:Nat) x y,xs[i]? =some x->ys[i]? =some y->Sm H k x y
theorem kX:(BN m).all (λoo=>true)=true:=yY.mpr λoo oo=>rfl
theorem Sm.base (h:x=y/\(x= .none\/(∃b,x= .bool b)\/(∃i,x= .int i)\/∃b,x= .bytes b)) (hv:VR g x v) (hu:VR g y u):SeqAt.EqAt A s v u true:=by
 obtain ⟨rfl,h⟩:=h
 rcases h with rfl|⟨b,rfl⟩|⟨i,rfl⟩|⟨b,rfl⟩
 ·obtain rfl:=hv;obtain rfl:=hu;exact SeqAt.EqAt.same _
 ·obtain rfl:=hv;obtain rfl:=hu;exact SeqAt.EqAt.same _
 ·(refine qA hv λt J=>?_;clear hv;subst J)
  (refine qA hu λt' I=>?_;clear hu;subst I)
  exact λprog w E Q hq=>wpAny_eqBool_int (by rw [beq_self_eq_true];exact hq)
 ·(refine qA hv λt F=>?_;clear hv;subst F)
  (refine qA hu λt' C=>?_;clear hu;subst C)
  exact λprog w E Q hq=>eqBool_bytes (by rw [decide_eq_true rfl];exact hq)
theorem Sm.at: ∀{A:y9} {x y:V} {v u:yr},Sm σ.H k x y->Rep g f σ s->A.units+k<DY->VR g x v->VR g y u->SeqAt.EqAt A s v u true:=by
 induction k with
 |zero=>exact λh oo oo hv hu=>Sm.base h hv hu
 |succ k ih=>
  intro A x y v u h hs hz hv hu
  rcases h with h|⟨a,b,xs,ys,rfl,rfl,hm,hl,he⟩
  ·exact Sm.base h hv hu
  ·obtain rfl:=hv;obtain rfl:=hu
   by_cases Z:a=b
   ·subst Z;exact SeqAt.EqAt.same _
   have hi:A.in1.units+k<DY:=by show A.units+1+k<DY;exact (qR [.nt (.a VA (.a VB KB)) VC] (.nt (.a (.a VA KB) VB) VC) rfl hz)
   rcases hm with ⟨h1,h2⟩|⟨h1,h2⟩
   ·refine qB (hs.list h1) λvs c hr e=>?_
    refine qB (hs.list h2) λus c' C e'=>?_
    have hsz:vs.toArray.size=us.toArray.size:=by rw [yJ,yJ,hr.length,C.length,hl]
    have R:=SeqAt.RcAt.lists (A:=A) (e:=λoo=>true) (qz e) (qz e') hsz (qR [.nt (.a VA (.a VB KB)) VC] (.nt VA VC) rfl hz) (λj j1 j2=>by
     have I:j<xs.length:=by rw [<- hr.length];simpa using j1
     have F:j<ys.length:=by rw [<- C.length];simpa using j2
     refine qf (hr.get (yw I)) λv hv J=>?_
     refine qf (C.get (yw F)) λu hu X=>?_
     have:=ih (he j _ _ (yw I) (yw F)) hs hi J X
     have ev:vs.toArray[j]=v:=by have:=Wb.mp hv;simpa using this.2
     have eu:us.toArray[j]=u:=by have:=Wb.mp hu;simpa using this.2
     rw [ev,eu];exact this)
    rw [kX] at R
    exact SeqAt.EqAt.of_refs Z R
   ·refine qB (hs.tup h1) λvs c hr e=>?_
    refine qB (hs.tup h2) λus c' C e'=>?_
    have hsz:vs.toArray.size=us.toArray.size:=by rw [yJ,yJ,hr.length,C.length,hl]
    have R:=SeqAt.RcAt.tuples (A:=A) (e:=λoo=>true) (qK _ e rfl (qx _ rfl)) (qK _ e' rfl (qx _ rfl)) (qR [.nt (.a VA (.a VB KB)) VC] (.nt VA VC) rfl hz) (λj j1 j2=>by
     have I:j<xs.length:=by rw [<- hr.length];simpa using j1
     have F:j<ys.length:=by rw [<- C.length];simpa using j2
     refine qf (hr.get (yw I)) λv hv J=>?_
     refine qf (C.get (yw F)) λu hu X=>?_
     have:=ih (he j _ _ (yw I) (yw F)) hs hi J X
     have ev:vs.toArray[j]=v:=by have:=Wb.mp hv;simpa using this.2
     have eu:us.toArray[j]=u:=by have:=Wb.mp hu;simpa using this.2
     rw [ev,eu];exact this)
    rw [kX,hsz,beq_self_eq_true] at R
    exact SeqAt.EqAt.of_refs Z R
theorem qm.eqSm (h1:(a,.list xs)∈σ.H) (h2:(b,.list ys)∈σ.H) (hl:xs.length=ys.length) (he: ∀(i:Nat) x y,xs[i]? =some x->ys[i]? =some y->Sm σ.H k x y) (hz:n+k+1<DY) (h:Q (.bool true) σ):qm g f n .Eq (.ref a) (.ref b) Q E σ:=Op.mk λv w hv hw A s hA hs=>by
 obtain rfl:=hv;obtain rfl:=hw
 have:=hA.units
 refine qB (hs.list h1) λvs c hr e=>?_
 refine qB (hs.list h2) λus c' C e'=>?_
 have hsz:vs.toArray.size=us.toArray.size:=by rw [yJ,yJ,hr.length,C.length,hl]
 have R:=SeqAt.RcAt.lists (A:=A) (e:=λoo=>true) (qz e) (qz e') hsz (kr [.nt (.a (.a VA VB) KB) VC,.nl VD VA] (.nt VD VC) rfl hz this) (λj j1 j2=>by
  have I:j<xs.length:=by rw [<- hr.length];simpa using j1
  have F:j<ys.length:=by rw [<- C.length];simpa using j2
  refine qf (hr.get (yw I)) λv hv J=>?_
  refine qf (C.get (yw F)) λu hu X=>?_
  have:=(he j _ _ (yw I) (yw F)).at (A:=A.in1) hs (by show A.units+1+k<DY;exact (kr [.nt (.a (.a VA VB) KB) VC,.nl VD VA] (.nt (.a (.a VD KB) VB) VC) rfl hz this)) J X
  have ev:vs.toArray[j]=v:=by have:=Wb.mp hv;simpa using this.2
  have eu:us.toArray[j]=u:=by have:=Wb.mp hu;simpa using this.2
  rw [ev,eu];exact this)
 rw [kX] at R
 exact R _ _ _ _ (qe _ σ (.bool) hs h)
theorem qm.neSm (h1:(a,.list xs)∈σ.H) (h2:(b,.list ys)∈σ.H) (hl:xs.length=ys.length) (he: ∀(i:Nat) x y,xs[i]? =some x->ys[i]? =some y->Sm σ.H k x y) (hz:n+k+1<DY) (h:Q (.bool false) σ):qm g f n .NotEq (.ref a) (.ref b) Q E σ:=Op.mk λv w hv hw A s hA hs=>by
 obtain rfl:=hv;obtain rfl:=hw
 have:=hA.units
 refine qB (hs.list h1) λvs c hr e=>?_
 refine qB (hs.list h2) λus c' C e'=>?_
 have hsz:vs.toArray.size=us.toArray.size:=by rw [yJ,yJ,hr.length,C.length,hl]
 have R:=SeqAt.RcNeAt.lists (A:=A) (e:=λoo=>true) (qz e) (qz e') hsz (kr [.nt (.a (.a VA VB) KB) VC,.nl VD VA] (.nt VD VC) rfl hz this) (λj j1 j2=>by
  have I:j<xs.length:=by rw [<- hr.length];simpa using j1
  have F:j<ys.length:=by rw [<- C.length];simpa using j2
  refine qf (hr.get (yw I)) λv hv J=>?_
  refine qf (C.get (yw F)) λu hu X=>?_
  have:=(he j _ _ (yw I) (yw F)).at (A:=A.in1) hs (by show A.units+1+k<DY;exact (kr [.nt (.a (.a VA VB) KB) VC,.nl VD VA] (.nt (.a (.a VD KB) VB) VC) rfl hz this)) J X
  have ev:vs.toArray[j]=v:=by have:=Wb.mp hv;simpa using this.2
  have eu:us.toArray[j]=u:=by have:=Wb.mp hu;simpa using this.2
  rw [ev,eu];exact this)
 rw [kX] at R
 exact R _ _ _ _ (qe _ σ (.bool) hs h)
theorem qm.neSm2 (h1:(a,.tup [x,y])∈σ.H) (h2:(b,.tup [u,v])∈σ.H) (hx:Sm σ.H k x u) (hy:Sm σ.H k y v) (hz:n+k+1<DY) (h:Q (.bool false) σ):qm g f n .NotEq (.ref a) (.ref b) Q E σ:=Op.mk λva vb hv hw A s hA hs=>by
 obtain rfl:=hv;obtain rfl:=hw
 have:=hA.units
 (refine qB (hs.tup h1) λvs c F e=>?_;obtain ⟨v1,_,rfl,r1,v2,_,rfl,r2,e0⟩:=F)
 (refine qB (hs.tup h2) λus c' C e'=>?_;obtain ⟨u1,_,rfl,q1,u2,_,rfl,q2,I⟩:=C)
 obtain rfl:=e0;obtain rfl:=I
 have R:=SeqAt.RcNeAt.tuples (A:=A) (e:=λoo=>true) (qK _ e rfl (qx _ rfl)) (qK _ e' rfl (qx _ rfl)) (kr [.nt (.a (.a VA VB) KB) VC,.nl VD VA] (.nt VD VC) rfl hz this) (λj j1 j2=>by
  match j,j1,j2 with
  |0,_,_=>exact hx.at (A:=A.in1) hs (by show A.units+1+k<DY;exact (kr [.nt (.a (.a VA VB) KB) VC,.nl VD VA] (.nt (.a (.a VD KB) VB) VC) rfl hz this)) r1 q1
  |1,_,_=>exact hy.at (A:=A.in1) hs (by show A.units+1+k<DY;exact (kr [.nt (.a (.a VA VB) KB) VC,.nl VD VA] (.nt (.a (.a VD KB) VB) VC) rfl hz this)) r2 q2)
 exact R _ _ _ _ (qe _ σ (.bool) hs h)
/- lists -/
theorem qb.copy (hm:(a,.list xs)∈σ.H) (hz:xs.length<=16777216) (h: ∀c,Q (.ref c) ⟨σ.loc,(c,.list xs)::σ.H⟩):qb g f n (.fix (.builtin "list.copy")) [.ref a] [] Q E σ:=
 qb.of_builtin rfl λvs kw hv hk A s hA hs=>by
  obtain rfl:=hk
  (refine qk hv λoo oo u h1 h3=>?_;clear hv;subst u)
  obtain rfl:=h1;obtain rfl:=h3
  refine qB (hs.list hm) λus k hr e=>?_
  exact F7 PySem.F.slot_list_copy (qj _ e rfl) PySem.F.entry_list_copy (PySem.F.args_list_copy_1 _) (list_copyW a us.toArray k none #[] (by rw [yJ,hr.length,Wp];exact hz)) (qa e (qe _ _ (.ref) (hs.pushL hr) (h _)))
theorem qG.listOut (hd:f.hd=none) (hm:(a,.list xs)∈σ.H) (h0:0<=i) (hz:i<9223372036854775808) (hn:(xs.length:Int)<=i) (h: ∀e,E ⟨e,.type "IndexError"⟩ σ):qG g f n (.ref a) (.int i) Q E σ:=
 qG.of Dj.lookup (λs v hs hv=>by obtain rfl:=hv;refine qB (hs.list hm) λvs k oo e=>?_;exact qj _ e rfl)<|Op.mk λv w hv hw A s hA hs=>by
  obtain rfl:=hv;(refine qA hw λt u=>?_;clear hw;subst u)
  refine qB (hs.list hm) λvs k hr e=>?_
  refine wpAny_getItem_list_out (hA.hd.trans hd) (qz e) (.inr (by rw [yJ,hr.length];exact hn)) (za [.zl UA ZA] (.zl (.n (.k (2^63))) ZA) rfl h0) hz λh' tk e' ne=>?_
  exact qe ⟨e',.type "IndexError"⟩ σ rfl (hs.newExc ne tk) (h e')
end
section
variable {g:G} {f:Fx} {n:Nat} {mg mb:Str->Option yr} {σ:St} {s:yF} {E:QE} {A:y9} {Q:QV} {i j:Int}
theorem qb.popAt (u:HU a (.list (xs++y::zs)) (.list (xs++zs)) σ.H H') (hi:i=(xs.length:Nat)) (hz:(xs++y::zs).length<=16777216) (h:Q y ⟨σ.loc,H'⟩):qb g f n (.fix (.builtin "list.pop")) [.ref a,.int i] [] Q E σ:=
 qb.of_builtin rfl λvs kw hv hk A s hA hs=>by
  obtain rfl:=hk
  (refine qk hv λoo oo a4 h1 a1=>?_;refine qk a1 λoo oo a3 a2 h3=>?_;clear hv;subst a4;subst a3;obtain ⟨t,rfl⟩:=a2)
  obtain rfl:=h1;obtain rfl:=h3
  refine qB (hs.list u.mem) λus k hr e=>?_
  (refine qk (hr.split) λps oo a0 hp X=>?_;refine qk X λz r Z C hn=>?_;subst a0;subst Z)
  have hl:ps.length=xs.length:=hp.length
  have I:(ps++z::r).length=(xs++y::zs).length:=(hp.append (.cons C hn)).length
  have hsz:(ps++z::r).toArray.size=(xs++y::zs).length:=by rw [yJ,I]
  have hx:xs.length<(ps++z::r).toArray.size:=by rw [hsz,yS,WE];exact (qq [] (.nt VA (.a VA (.a VB KB))) rfl)
  have hy:(ps++z::r).toArray[xs.length]? =some z:=by rw [<- hl];simp
  have q:=PySem.IsL.update e (·.eraseIdxIfInBounds xs.length)
  have he:(ps++z::r).toArray.eraseIdxIfInBounds xs.length=(ps++r).toArray:=by
   rw [Array.eraseIdxIfInBounds,dif_pos hx]
   simp only [List.eraseIdx_toArray]
   rw [<- hl,List.eraseIdx_append_of_length_le (yM _),Hq];rfl
  rw [he] at q
  have R:=hs.upd1 (obj':=Bi (ps++r).toArray (if (ps++r).toArray.size==(ps++z::r).toArray.size then k else k+1)) u list1 (qU (ps++r) _ (hp.append hn) rfl) (Heap.SameBut.update ..) q
  have J:((xs.length:Nat):Int)<9223372036854775808:=by
   rw [yS] at hz
   clear hx hsz I hy q R he e
   exact (qq [.nl (.a VA VB) KT] (.zt (.c VA) UU) rfl hz)
  have hf:Builtin.List.listFitsIndex i=true:=fitsIndex_of (LB11 [.ze ZA (.c VA)] (.zl UA ZA) [1,-1] rfl hi) (by show _<(2 ^ 63:Int);rw [show (2 ^ 63:Int)=9223372036854775808 by decide,hi];exact J)
  have hk:seqIndex? i (ps++z::r).toArray.size=some xs.length:=by rw [hi];exact seqIndex_of (yt _) (Bg.mpr hx)
  have a5:(ps++z::r).toArray.size<=Be:=by rw [hsz,Wp];exact hz
  clear hi J
  exact F7 PySem.F.slot_list_pop (qj _ e rfl) PySem.F.entry_list_pop (PySem.F.args_list_pop_2 _ _) (PySem.MeetsSeq.list_pop_at a _ k _ t _ z hf hk hy a5) (qa e (qe y ⟨σ.loc,H'⟩ C R h))
theorem qm.inTup {ns:List Int} (hm:(a,.tup (ns.map V.int))∈σ.H) (hu:n+2<DY) (h:Q (.bool (ns.any (· ==i))) σ):qm g f n .In (.int i) (.ref a) Q E σ:=Op.mk λv w hv hw A s hA hs=>by
 (refine qA hv λt u=>?_;clear hv;subst u);obtain rfl:=hw
 have:=hA.units
 refine SeqAt.in_tuple_reads (hs.readsT hm) (.int i t) kO.1 rfl (by rw [kO.2];show A.units+1+min 0 0<DY;exact (kr [.nt (.a VA KC) VB,.nl VC VA,.ne VD KA] (.nt (.a (.a VC KB) VD) VB) rfl hu this (Wz (WI _)))) (qe _ σ (.bool) hs ?_)
 have e:((ns.map PyData.int).any λy=>PyData.eqv y (.int i))=ns.any (· ==i):=by
  rw [List.any_map];rfl
 rw [e];exact h
end
section
variable {g:G} {f:Fx} {n:Nat} {mg mb:Str->Option yr} {σ:St} {s:yF} {E:QE} {A:y9} {Q:QF} {i j:Int}
/- zip of two lists -/
noncomputable abbrev vn (TI TO:yu) (f0:yr):Obj:={cls:= .type "zip",dict:=none,data:= .fields #[f0,.bool false,.bool false,.ref TI,.ref TO],slots:= #[]}
noncomputable abbrev kH (a b:yr):Obj:={cls:= .type "tuple",data:= .seq #[a,b]}
abbrev liO (k:Nat) (l:yu) (o:Obj):Prop:=o.cls= .type "list_iterator"/\o.data= .fields #[.ref l,.int (k:Int) 0]
def Ju (z TI TO i1 i2 l1 l2:yu) (k:Nat) (hs:List (yu × Obj)):Prop:=∃a b o1 o2,hs=[(z,vn TI TO .none),(TI,kH (.ref i1) (.ref i2)),(TO,kH a b),(i1,o1),(i2,o2)]/\liO k l1 o1/\liO k l2 o2
theorem Walk.zip (D:ZipApart z TI TO i1 i2 l1 l2) (hl:xs.length=ys.length):
  Walk g f z (.Tuple es kt p) xs.length (λk x N=>∃T u v,xs[k]? =some u/\ys[k]? =some v/\x= .ref T/\N=[(T,.tup [u,v])]) (Ju z TI TO i1 i2 l1 l2) (λσ=>(l1,.list xs)∈σ.H/\(l2,.list ys)∈σ.H) where
 item:=λk A s σ hs hk hh ho hi hm=>by
  (refine vD ho λa b o1 o2 z28 z29 q1 q2=>?_;clear ho;subst z28;obtain ⟨p1,p2⟩:=z29)
  refine qB (hi.toRep.list hm.1) λvs c hr e=>?_
  refine qB (hi.toRep.list hm.2) λus c' hr' e'=>?_
  have hz:=hi.there (z,_) (.head _)
  have hTI:=hi.there (TI,_) (.tail _ (.head _))
  have hTO:=hi.there (TO,_) (.tail _ (.tail _ (.head _)))
  have h1:=hi.there (i1,_) (.tail _ (.tail _ (.tail _ (.head _))))
  have h2:=hi.there (i2,_) (.tail _ (.tail _ (.tail _ (.tail _ (.head _)))))
  have hx:=yw hk
  have hy:=yw (show k<ys.length from hl ▸ hk)
  refine qf (hr.get hx) λv hv hrv=>?_
  refine qf (hr'.get hy) λu hu hru=>?_
  refine wpAny_pyNext_zip_item D hz hTI hTO (qK o1 h1 p1 p2) (qK o2 h2 q1 q2) (qz e) (qz e') (by simpa using hv) (by simpa using hu) λh' a1 a2 a3 a4 a5 a6 a7=>(qj _ rfl ?_)
  refine wpAny_letOwnedTupleGo_zip (s:={s with heap:=h'}) a1 λh'' b1 b2=>?_
  refine zk a3 λo1' r1 r2 r3=>?_
  refine zk a4 λo2' t1 t2 t3=>?_
  have nT:s.heap.objs.size≠z:=Fn (Heap.lt_size hz)
  refine xi (.ref s.heap.objs.size) [(s.heap.objs.size,.tup [xs[k],ys[k]])] [(z,vn TI TO .none),(TI,kH (.ref i1) (.ref i2)),(TO,kH v u),(i1,o1'),(i2,o2')] (.ref) (xi _ _ _ hx hy rfl rfl) (XZ _ _ o1' o2' rfl (qa r2 r3) t2 t3) ?_
  refine hi.tell (s':={s with heap:=h''}) (hs':=[(z,vn TI TO .none),(TI,kH (.ref i1) (.ref i2)),(TO,kH v u),(i1,o1'),(i2,o2')]) (o:= .tup [xs[k],ys[k]]) (ob:=kH v u) rfl (λw hw x e0=>?_) (λq hq=>?_) rfl rfl rfl (yM _) ((b2.2 _ nT).trans a5) (qU [v,u] 0 (.cons hrv (.cons hru .nil)) rfl)
  ·simp only [yH,Dq,yy,yI,or_false,not_or] at hw
   exact (b2.2 w hw.1).trans (a7 w x hw.1 hw.2.2.1 hw.2.2.2.1 hw.2.2.2.2 e0)
  ·simp only [yy,yI,or_false] at hq
   rcases hq with rfl|rfl|rfl|rfl|rfl
   ·exact b1
   ·exact (b2.2 _ D.TIz).trans (a7 _ _ D.TIz D.TITO D.TIi1 D.TIi2 hTI)
   ·exact (b2.2 _ D.TOz).trans a2
   ·exact (b2.2 _ D.i1z).trans r1
   ·exact (b2.2 _ D.i2z).trans t1
 stop:=λA s σ hs hh ho hi hm=>by
  (refine vD ho λa b o1 o2 z30 z31 q1 q2=>?_;clear ho;subst z30;obtain ⟨p1,p2⟩:=z31)
  refine qB (hi.toRep.list hm.1) λvs c hr e=>?_
  refine qB (hi.toRep.list hm.2) λus c' hr' e'=>?_
  have hz:=hi.there (z,_) (.head _)
  have hTI:=hi.there (TI,_) (.tail _ (.head _))
  have hTO:=hi.there (TO,_) (.tail _ (.tail _ (.head _)))
  have h1:=hi.there (i1,_) (.tail _ (.tail _ (.tail _ (.head _))))
  have h2:=hi.there (i2,_) (.tail _ (.tail _ (.tail _ (.tail _ (.head _)))))
  refine wpAny_pyNext_zip_end hh D hz hTI hTO (qK o1 h1 p1 p2) (qK o2 h2 q1 q2) (qz e) (qz e') (.inl (by rw [HE];rw [yJ,hr.length];exact yM _)) λh' a7=>(zQ rfl (λw hw x e0=>?_) rfl (qa rfl rfl))
  simp only [yH,Dq,yy,yI,or_false,not_or] at hw
  exact a7 w x hw.1 hw.2.2.1 hw.2.2.2.1 hw.2.2.2.2 e0
theorem Rep.hideM (h:Rep g f ⟨loc,(a,.many L)::H⟩ s):qF g f L ⟨loc,H⟩ s:=by
 refine jk h λm u N x y z w e1 e2 e3=>?_
 (refine qk y λL' N' C e0 y'=>?_;clear y;subst C)
 obtain rfl:L'=L:=e0
 have z':Lay f.prot (L'++(u++N')) s.heap:=z.perm (by
  rw [<- yG,<- yG]
  exact WA.append_right _)
 have nd:=z'.nodup
 rw [yE,Wm] at nd
 exact ⟨λp hp=>z'.there p (yA _ hp),λp hp=>z'.fresh p (yA _ hp),m,u,N',x,y',z'.sub ((Sub.refl _).left _),w,e1,e2,e3,λp hp hm=>nd.2.2 _ (yT hp) _ hm rfl⟩
theorem Rep.tellM (h:Rep g f σ s) (hk: ∀c o,s.heap.get? c=some o->h'.get? c=some o) (hL: ∀p∈L,s.heap.objs.size<=p.1) (nd:(L.map (·.1)).Nodup) (ht: ∀p∈L,h'.get? p.1=some p.2):Rep g f ⟨σ.loc,(a,.many L)::σ.H⟩ {s with heap:=h'}:=by
 refine jk h λm u N x y z w e1 e2 e3=>?_
 refine wj m u (L++N) x (.cons rfl y) ?_ w e1 e2 e3
 refine (z.grow (X:=[]) (λb oo x e=>hk _ _ e) (λoo oo=>yI) (λoo hb=>(yI hb).elim) hL nd ht).perm ?_
 rw [<- yG,<- yG]
 exact WA.append_right _
theorem zC.zip (gk:GOk g mg mb) (ok:FOk g f) (hh:f.hd=none) (D:ZipApart z TI TO i1 i2 l1 l2) (F:Ju z TI TO i1 i2 l1 l2 0 L) (hl:xs.length=ys.length)
     (Inv:Nat->St->Prop) (hm: ∀k σ,Inv k σ->(l1,.list xs)∈σ.H/\(l2,.list ys)∈σ.H) (h0:Inv 0 ⟨loc,H⟩)
  (C: ∀p k T x y σ,FOk g (f.at p)->xs[k]? =some x->ys[k]? =some y->Inv k σ->wD g (f.at p) n (.ref T) l.length (λxs σ=>wSs g (f.at p) n b (turn (Wk (Inv (k+1))) Q) E {σ with loc:=sts l xs σ.loc}) E ⟨σ.loc,(T,.tup [x,y])::σ.H⟩)
  (I: ∀σ,Inv xs.length σ->wSs g f n o Q E σ):zC g f n (.tup l kt p) (.ref z) b o Q E ⟨loc,(z,.many L)::H⟩:=Op.mk λht hb ho a ha A s hA hs=>by
 obtain rfl:=ha
 have hi:=hs.hideM
 have hz:s.heap.get? z=some (vn TI TO .none):=by
  (refine wh F λa b o1 o2 Z oo=>?_;clear F;subst Z)
  exact hi.there (z,_) (.head _)
 refine yo (Wr (wpAny_pyIter_zip hz ?_))
 exact jN gk ok hh (Walk.zip D hl) Inv hm ht hb ho (λp k x N σ a0 hk hx hv=>by (refine xF hx λT u v h1 h2 X J=>?_;clear hx;subst X;subst J);exact C p k T u v σ a0 h1 h2 hv) I A _ _ _ hA F hi h0
end
section
variable {g:G} {f:Fx} {n:Nat} {mg mb:Str->Option yr} {σ:St} {s:yF} {E:QE} {A:y9} {Q:QV} {i j:Int}
theorem qb.zip (h1:(l1,.list xs)∈σ.H) (h2:(l2,.list ys)∈σ.H) (h: ∀z TI TO i1 i2 L,ZipApart z TI TO i1 i2 l1 l2->Ju z TI TO i1 i2 l1 l2 0 L->Q (.ref z) ⟨σ.loc,(z,.many L)::σ.H⟩):qb g f n (.fix (.type "zip")) [.ref l1,.ref l2] [] Q E σ:=
 qb.of_builtin rfl λvs kw hv hk A s hA hs=>by
  obtain rfl:=hk
  (refine qk hv λoo oo F r1 u=>?_;refine qk u λoo oo C r2 h3=>?_;clear hv;subst F;subst C)
  obtain rfl:=r1;obtain rfl:=r2;obtain rfl:=h3
  refine qB (hs.list h1) λus c hr e=>?_
  refine qB (hs.list h2) λJ c' X e'=>?_
  refine call_zip_2 (qz e) (qz e') λh' a1 a2 a3 a4 a5 a6 a7=>?_
  refine zk a4 λo1 p1 p2 p3=>?_
  refine zk a5 λo2 q1 q2 q3=>?_
  have D:ZipApart (s.heap.objs.size+4) (s.heap.objs.size+2) (s.heap.objs.size+3) s.heap.objs.size (s.heap.objs.size+1) l1 l2:=zipApart_new (Heap.lt_size e) (Heap.lt_size e')
  refine qe _ _ (.ref) (hs.tellM (a:=s.heap.objs.size+4) (L:=[(s.heap.objs.size+4,vn (s.heap.objs.size+2) (s.heap.objs.size+3) .none),(s.heap.objs.size+2,kH (.ref s.heap.objs.size) (.ref (s.heap.objs.size+1))),(s.heap.objs.size+3,kH .none .none),(s.heap.objs.size,o1),(s.heap.objs.size+1,o2)]) a7 (λp hp=>?_) ?_ (λp hp=>?_)) (h _ _ _ _ _ _ D (XZ _ _ _ _ rfl (qa p2 p3) q2 q3))
  ·simp only [yy,yI,or_false] at hp
   rcases hp with rfl|rfl|rfl|rfl|rfl<;>first|exact Nat.le_add_right _ _|exact yM _
  ·have d1:=D.TIz;have d2:=D.TOz;have d3:=D.i1z;have d4:=D.i2z;have d5:=D.TITO;have d6:=D.TIi1;have d7:=D.TIi2;have d8:=D.TOi1;have d9:=D.TOi2;have I:=D.i12
   simp only [yH,Dq,Wd,yy,yI,or_false,not_or]
   exact zQ (zQ d1.symm d2.symm d3.symm d4.symm) (qy d5 d6 d7) (qa d8 d9) (qy I not_false WW)
  ·simp only [yy,yI,or_false] at hp
   rcases hp with rfl|rfl|rfl|rfl|rfl
   ·exact a1
   ·exact a2
   ·exact a3
   ·exact p1
   ·exact q1
end
open PySem.Builtin in
section
theorem zm:Slot "bytes" "__buffer__" "bytes.__buffer__":=
 .of (owner:="bytes") (n:="__buffer__") (by rw [BV,Bb];kernel_rfl) (by decide+kernel) (by decide+kernel) (by decide+kernel)
  (by first|exact .inl (by decide+kernel)|exact .inr (by decide+kernel)) (by rw [FI];kernel_rfl)
theorem jF:Slot "bytes" "join" "bytes.join":=
 .of (owner:="bytes") (n:="join") (by rw [BV,Bb];kernel_rfl) (by decide+kernel) (by decide+kernel) (by decide+kernel)
  (by first|exact .inl (by decide+kernel)|exact .inr (by decide+kernel)) (by rw [FI];kernel_rfl)
theorem wC:Hm (.builtin "bytes.join")=pure (.type "method_descriptor"):=by show builtinType _=_;rw [builtinType_eq_fast];kernel_rfl
theorem wa:entryFor table "bytes.join"=some Builtin.«bytes.join»:=entryFor_of_tree (by kernel_rfl)
theorem kA (a b:yr):argsOk "bytes.join" ⟨[a,b],[]⟩:=by
 unfold argsOk;rw [signature?_of (id:="bytes.join") (n:=['n','i','o','j']) (o:=['s','e','t','y','b']) (by kernel_rfl) PySem.W.FB.owner_bytes];kernel_rfl
theorem Y5:Fp (.type "bytes") "__getattribute__"=pure (some (.builtin "bytes.__getattribute__")):=by rw [BV,Bb];kernel_rfl
theorem Qr:(Manifest.canonical "bytes.__getattribute__" !="object.__getattribute__")=false:=by decide+kernel
theorem wn:Fp (.type "bytes") "__getattr__"=pure none:=by rw [BV,Bb];kernel_rfl
theorem wi:Fp (.type "bytes") "__release_buffer__"=pure none:=by rw [BV,Bb];kernel_rfl
variable {M:Model} {A:y9} {E:yr->yF->Prop} {s:yF}
theorem Qz (h:Q true s):yP M A (Bytes.slotIsOwn (.bytes b t) "__buffer__") Q E s:=by
 unfold Bytes.slotIsOwn
 refine yo (WH (W6 s b t) zm.lookup ?_)
 show yP M A (if (!("bytes.__buffer__":String).endsWith ("."++"__buffer__"))=true then _ else _) Q E s
 rw [show ("bytes.__buffer__":String).endsWith ("."++"__buffer__")=true by decide+kernel,if_neg (by decide)]
 refine wpAny_isInstance (T:="bytes") (b:=true) (W6 s b t) ?_ h
 rw [show ("bytes.__buffer__":String).dropRight (("__buffer__":String).length+1)="bytes" by decide+kernel,FI]
 kernel_rfl
theorem Xb {id:String} (h:Q (some (b,none)) s):yP M A (Bytes.takeBufferQuiet? id (.bytes b t) 0) Q E s:=by
 unfold Bytes.takeBufferQuiet?
 refine yo (wpAny_attempt ?_)
 unfold Bytes.takeBuffer?
 refine yo (WH (W6 s b t) zm.lookup ?_)
 refine yo (Qz ?_)
 refine (show yP M A (if (!true)=true then _ else _) _ _ s from ?_)
 rw [if_neg (by decide)]
 refine yo (WH (W6 s b t) zm.lookup ?_)
 refine (show yP M A (Bytes.buffer? id (.bytes b t) (full:=false)>>=_) _ _ s from ?_)
 refine yo ?_
 unfold Bytes.buffer?
 refine yo (WH (W6 s b t) zm.lookup ?_)
 refine yo (Qz ?_)
 refine (show yP M A (if (!true)=true then _ else _) _ _ s from ?_)
 rw [if_neg (by decide)]
 refine yo (WH (W6 s b t) zm.lookup ?_)
 refine yo ?_
 unfold Bytes.ownRelease
 refine yo ?_
 unfold Bytes.slotIsOwn
 refine yo (WH (W6 s b t) wi (yB ?_))
 refine yB ?_
 refine (show yP M A (if (!true)=true then _ else _) _ _ s from ?_)
 rw [if_neg (by decide)]
 exact yB (yB (yB h))
theorem QT (hq:Q () s):(∀p∈taken,p.2=none)->yP M A (Bytes.joinLetGo taken keep) Q E s:=by
 induction taken with
 |nil=>
  exact @λoo=>yB hq
 |cons hd g ih=>
  obtain ⟨x,w⟩:=hd
  exact @λh=>by
   obtain rfl:w=none:=h _ (.head _)
   exact (yo (HH (ih λp hp=>h p (.tail _ hp))):yP M A (letGo [x] (keep++g.flatMap λp=>p.1::p.2.toList)>>=λoo=>Bytes.joinLetGo g keep) Q E s)
theorem Ud {bs:List (List UInt8)}: ∀{k:Nat},(bs.map Dr).foldl (λ(x1:Nat) (x2:Array UInt8)=>x1+x2.size) k=k+bs.flatten.length:=by
 induction bs with
 |nil=>
  exact @λk=>rfl
 |cons b bs ih=>
  exact @λk=>by
   rw [yH,Hy,ih,Wa,yS,yJ,F1]
theorem Uz {bs:List (List UInt8)}: ∀{k:Nat} {out:List UInt8},((bs.map Dr).zipIdx k).foldl (λ(out:Array UInt8) (p:Array UInt8 × Nat)=>(if p.2>0 then out++(#[]:Array UInt8) else out)++p.1) out.toArray=(out++bs.flatten).toArray:=by
 induction bs with
 |nil=>
  exact @λk out=>by simp
 |cons b bs ih=>
  exact @λk out=>by
   rw [yH,List.zipIdx_cons,Hy]
   have:(if k>0 then out.toArray++(#[]:Array UInt8) else out.toArray)++b.toArray=(out++b).toArray:=by split<;>simp
   rw [this,ih,Wa,yG]
theorem Y2 {bs:List (List UInt8)}:Bytes.joined #[] (bs.map Dr)=bs.flatten.toArray:=Uz (k:=0) (out:=[])
abbrev BR:List (List UInt8)->List yr->Prop:=zg λb v=>∃t,v= .bytes b.toArray t
theorem Yb (hl:s.heap.get? l=some (Bi (v1::v2::r).toArray n)) (hb:BR bs (v1::v2::r)) (hz:bs.flatten.length<=Be)
  (h: ∀t' k,Q (.done (.ret (.bytes bs.flatten.toArray t'))) {s with toks:=k}):yP M A (Builtin.«bytes.join» ⟨[.bytes #[] t,.ref l],[]⟩) Q E s:=by
 unfold Builtin.«bytes.join» Bytes.joinM
 refine yo (DC (a:=(Value.bytes #[] t,Value.ref l)) rfl ?_)
 refine yo ?_
 refine (show yP M A (Bytes.joinItems (.ref l)) _ E s from ?_)
 unfold Bytes.joinItems
 refine yo (DQ (T:="list") (qj _ hl rfl) ?_)
 refine (show yP M A (pure (Value.ref l)) _ E s from yB ?_)
 refine yo (DZ hl rfl ?_)
 refine yo ?_
 rw [Std.Legacy.Range.forIn_eq_forIn_range']
 refine wpAny_forIn_list _ (λC b s'=>s'=s/\∃k,k<=bs.length/\C=HI k (bs.length - k) 1/\b.1=((bs.take k).map Dr).toArray/\∀p∈b.2,p.2=none/\p.1.onHeap=false) _ (λi C b s' hi=>?_) (λb s' hi=>?_) _ _ ?_
 ·(refine qc hi λa0 Z=>?_;refine Qn Z λk hk hr hp ht=>?_;clear hi;subst a0)
  obtain ⟨parts,taken⟩:=b
  dsimp only at hp ht |-
  have g:k<bs.length:=by
   refine Or.elim (W5 k bs.length) (λh=>?_) λh=>?_
   ·exact h
   ·rw [Fh h] at hr;cases hr
  obtain ⟨m,hm⟩: ∃m,bs.length - k=m+1:=(qx (bs.length - k - 1) (by exact (zH [.ne (.a VA KB) VB] (.ne VB (.a VA KB)) [1,1] [1,-1] rfl (yn (qQ [.nt VA VB,.ne (.a VC VA) VB] (.nl KB VC) [1,1,-1] rfl g (yn hk))))))
  rw [hm,List.range'_succ] at hr
  injection hr with hi hr
  subst hi
  (refine qf (hb.get (yw g)) λv hv J=>?_;refine qA J λu X=>?_;subst X)
  refine yo (DZ hl rfl ?_)
  refine (show yP M A (if (Bytes.Kind.bytes==Bytes.Kind.bytearray||taken.any λx=>x.1.onHeap)=true then _ else _) _ E s' from ?_)
  rw [if_neg (by
   rw [Hx,List.any_eq_true]
   rintro (h|⟨p,hp,h⟩)
   ·cases h
   ·rw [(ht p hp).2] at h;exact yQ h)]
  have hx:(v1::v2::r).toArray.getD i Value.none= .bytes bs[i].toArray u:=by
   rw [Array.getD_eq_getD_getElem?]
   simp only [List.getElem?_toArray,hv,He]
  rw [hx]
  refine yo (Wr (Xb ?_))
  refine yo (DZ hl rfl ?_)
  refine (show yP M A (if ((v1::v2::r).toArray.size !=(v1::v2::r).toArray.size)=true then _ else _) _ E s' from ?_)
  rw [if_neg (by simp)]
  refine yB (qa rfl (X0 (i+1) g ?_ ?_ (λp hp=>?_)))
  ·rw [hr,show bs.length - (i+1)=m by exact (LA [_,_,_,_,_] [] [.ne VA (.a VB KB),.ne (.a VA VC) VD,.ne (.a VE (.a VC KB)) VD] (.ne VE VB) [1,-1,1,-1] [1,1,-1,1] rfl hm (yn hk) (yn (qq [.nt VA VB] (.nl (.a VA KB) VB) rfl g)))]
  ·rw [hp,List.take_add_one,yw g,yE,Option.toList_some]
   simp only [D0]
   rfl
  ·refine Or.elim (yR.mp hp) (λhp=>?_) λhp=>?_
   ·exact ht p hp
   ·rw [yN.mp hp];exact qa rfl rfl
 ·(refine qc hi λI F=>?_;refine Qn F λk hk hr hp ht=>?_;clear hi;subst I)
  obtain ⟨parts,taken⟩:=b
  dsimp only at hp ht |-
  have a1:k=bs.length:=by
   refine Or.elim (W5 k bs.length) (λh=>?_) λh=>?_
   ·obtain ⟨m,hm⟩: ∃m,bs.length - k=m+1:=(qx (bs.length - k - 1) (by exact (zH [.ne (.a VA KB) VB] (.ne VB (.a VA KB)) [1,1] [1,-1] rfl (yn (qQ [.nt VA VB,.ne (.a VC VA) VB] (.nl KB VC) [1,1,-1] rfl h (yn hk))))))
    rw [hm,List.range'_succ] at hr;cases hr
   ·exact (zH [.nl VA VB,.nl VB VA] (.ne VA VB) [1,0,1] [1,1,0] rfl hk h)
  subst a1
  rw [Bs] at hp
  subst hp
  refine yo (show yP M A (pure #[]) _ E s' from yB ?_)
  refine (show yP M A (if Bytes.tooLong _=true then _ else _) _ E s' from ?_)
  rw [if_neg (by
   have:(Array.foldl (λ(x1:Nat) (x2:Array UInt8)=>x1+x2.size) (0*((Fe Dr bs).toArray.size - 1)) (Fe Dr bs).toArray)=bs.flatten.length:=by
    rw [Nat.zero_mul,List.foldl_toArray,Ud,H7]
   show ¬ (decide (Array.foldl _ (0*_) _>Be))=true
   rw [this,decide_eq_true_eq];exact (BK.mpr hz))]
  have ej:Bytes.joined #[] ((Fe Dr bs).toArray).toList=bs.flatten.toArray:=by
   rw [List.toList_toArray]
   exact Y2
  rw [ej]
  refine yo (wpAny_mkBytes (yo (Wr (DA (yo (QT ?_ λp hp=>(ht p hp).1))))) (by rw [yJ];exact hz))
  exact yB (h _ _)
 ·refine qa rfl (X0 0 (WI _) ?_ rfl (λoo h=>(yI h).elim))
  have e:(v1::v2::r).length=bs.length:=hb.length
  have e2:[:(v1::v2::r).toArray.size].size=bs.length:=by simp only [Std.Legacy.Range.size,yJ,e];exact (LA [_,_,_,_,_] [] [.ne (.a (.m 1 VA) VB) VC,.nt VB KB,.ne (.a VC KB) (.a VD KB),.ne (.a VD KA) VE] (.ne VA VE) [1,-1,1,-1,-1] [1,1,0,1,1] rfl (Nat.div_add_mod _ 1) (Nat.mod_lt _ (by decide)) (yn (qD [] (.nl KB (.a VA KB)) rfl)) (yn (WI _)))
  rw [e2];rfl
end
section
variable {g:G} {f:Fx} {n:Nat} {mg mb:Str->Option yr} {σ:St} {s:yF} {E:QE} {A:y9}
theorem uj: ∀{bs:List (List UInt8)} {vs:List yr},VRs g (bs.map V.bytes) vs->BR bs vs
 |[],_,h=>h
 |b::bs,_,⟨v,r,e,h1,h2⟩=>(qe v r e h1 (uj h2))
theorem zE.join (hk:g.nm k=("join":Str)) (h:Q (.fix (.builtin "bytes.join"),[.bytes b]) σ):zE g f n (.bytes b) k Q E σ:=Op.mk λv pl hv A s hA hs=>by
 (refine qA hv λt u=>?_;clear hv;subst u)
 rw [hk]
 exact getMethod_value (T:="bytes") (name:=qS "join") (ga:="bytes.__getattribute__") (id:="bytes.join") (W6 s _ t) (by intro _ x;cases x) Y5 Qr wn jF.lookup wC (qe _ σ (qa (.fix) (.cons .bytes .nil)) hs h)
theorem qb.join {bs:List (List UInt8)} (hm:(a,.list (bs.map V.bytes))∈σ.H) (h2:2<=bs.length) (hz:bs.flatten.length<=16777216) (h:Q (.bytes bs.flatten) σ):qb g f n (.fix (.builtin "bytes.join")) [.bytes [],.ref a] [] Q E σ:=
 qb.of_builtin rfl λvs kw hv hk A s hA hs=>by
  obtain rfl:=hk
  (refine qk hv λoo oo I F u=>?_;refine qk u λoo oo C r1 h3=>?_;clear hv;subst I;obtain ⟨t,rfl⟩:=F;subst C)
  obtain rfl:=r1;obtain rfl:=h3
  refine qB (hs.list hm) λus c hr e=>?_
  have hb:=uj hr
  have hl:us.length=bs.length:=hb.length
  rcases us with _|⟨v1,_|⟨v2,r⟩⟩
  ·rw [<- hl] at h2;exact absurd h2 (HQ _)
  ·rw [<- hl] at h2;exact absurd (Nat.le_of_succ_le_succ h2) (HQ _)
  refine Fd jF (W6 s _ t) wa ?_ (kA _ _)
  exact Yb e hb (by rw [Wp];exact hz) λt' k=>(qj _ rfl (qe (.bytes bs.flatten) σ (qx t' rfl) (hs.toks k) h))
end
section
variable {g:G} {f:Fx} {n:Nat} {mg mb:Str->Option yr} {s:yF} {E:QE} {A:y9}
variable {I S:yu} {len:Nat} {val:Nat->V->Prop} {obj:Nat->List (yu × Obj)->Array Bc->Prop} {P:St->Prop} {X:Ex->Prop} {loc:List (Option V)} {H:List (yu × O)} {R:Result->yF->Prop} {res:yr}
theorem X5 (w:j8 g f I A.in1 len val obj P false X) (h0:len=0) (hP: ∀ys,P ⟨loc,(S,.list ys)::H⟩)
  (hX: ∀e s',EP g f (λx σ'=>X x/\σ'=⟨loc,(S,.list [])::H⟩) e s'->R (.error e) s') (hs:List (yu × Obj)) (s:yF) (u:obj 0 hs s.gens) (hi:qF g f hs ⟨loc,(S,.list [])::H⟩ s):
   W9 g.M A (.builtin "list.extend.loop" ⟨[.ref S,.ref I,res],[]⟩) R s:=by
 subst h0
 refine Fs F.entry_extend_loop ?_
 rw [Around.under_plainId F.plain_extend_loop _]
 show yP _ A.in1 (DP (.ref I)>>=_) _ _ s
 refine yo (yK (w.stop s _ hs u hi (hP _)) (λr s' h=>?_) λe s' h=>?_)
 ·exact yQ h.1
 ·refine ZF h λx σ' h1 h2 oo h4 h5=>?_
  exact hX _ _ (Qi x σ' h1 h2 h4 h5)
theorem Z0 (w : j8 g f I A.in1 len val obj P false X) (h0 : len = 0) (hP : ∀ ys, P ⟨loc, (S, .list ys) :: H⟩) (hself : ∀ hs (s : yF), obj 0 hs s.gens -> (∀ p ∈ hs, s.heap.get? p.1 = some p.2) -> ∃ k, s.heap.IsGen I k)
    (hX : ∀ e s', EP g f (λx σ' => X x /\ σ' = ⟨loc, (S, .list []) :: H⟩) e s' -> R (.error e) s') (hob : obj 0 hs s.gens) (hi : qF g f hs ⟨loc, (S, .list []) :: H⟩ s) :
    yP g.M A.in1 (Builtin.«list.__init__» ⟨[.ref S, .ref I], []⟩)
      (λfin s' => match fin with | .done f => R (.ok f) s' | .again c' => c'.quiet = true /\ W9 g.M A c' R s') (λe s' => R (.error e) s') s := by
  refine qB (hi.toRep.list (.head _)) λus c hu e =>?_
  obtain rfl := hu
  refine qA (hself hs s hob hi.there) λkG hG =>?_
  have hSI : S ≠ I := λq => by
    refine kT hG λo nm qn h1 h2 oo =>?_
    rw [<- q, e] at h1
    obtain rfl := Wc.inj h1
    exact (show Value.type "list" ≠ Value.type "generator" by decide) h2
  show yP g.M A.in1 (do let old <- Builtin.List.listItems (.ref S); Builtin.List.listUpdate (.ref S) (λoo => #[]); letGo old.toList.reverse; Builtin.List.listExtendWith (.ref S) (.ref I) .none) _ _ s
  refine yo ?_
  unfold Builtin.List.listItems
  refine yo (DZ e rfl (yB ?_))
  show yP g.M A.in1 (Fg S (λoo => #[]) >>= λoo => letGo (#[] : Array yr).toList.reverse >>= λoo => Builtin.List.listExtendWith (.ref S) (.ref I) .none) _ _ s
  refine yo (BX e rfl ?_)
  have hS₂ := Heap.get?_update_self (Obj.mapSeq (λoo => (#[] : Array yr))) e rfl
  refine yo (HH ?_)
  have i₂ : qF g f hs ⟨loc, (S, .list []) :: H⟩ { s with heap := s.heap.update S (Obj.mapSeq (λoo => (#[] : Array yr))) } := hi.list1 (vs := []) .nil (Heap.SameBut.update ..) hS₂
  unfold Builtin.List.listExtendWith
  obtain ⟨_, hG₂⟩ := hself hs { s with heap := s.heap.update S (Obj.mapSeq (λoo => (#[] : Array yr))) } hob i₂.there
  refine yo (DQ hG₂.typeIs ?_)
  have h1 : Builtin.List.listSameRef (.ref S) (.ref I) = false := by simp [Builtin.List.listSameRef, hSI]
  have h2 : (Value.type "generator" == Value.type "list") = false := by decide
  have h3 : (Value.type "generator" == Value.type "tuple") = false := by decide
  simp only [h1, h2, h3, HW, FT, if_false]
  refine yo (Dx hG₂ ?_)
  refine yo (Wr ?_)
  unfold Builtin.List.listLengthHint
  refine yo (WH hG₂.typeIs F.gen_no_len ?_)
  show yP _ A.in1 (specialOf (Value.ref I) (qS "__length_hint__") >>= _) _ _ _
  refine yo (WH hG₂.typeIs F.gen_no_hint ?_)
  refine yB ?_
  show yP _ A.in1 (rule "list.extend.makes-room" >>= λoo => Builtin.List.listTouch (.ref S) >>= λoo =>
    again (.builtin "list.extend.loop" ⟨[.ref S, .ref I, .none], []⟩)) _ _ _
  refine yo (wpAny_rule ?_)
  refine yo ?_
  show yP _ A.in1 (Fg S (·.push .none) >>= λoo => Fg S (·.pop)) _ _ _
  refine yo (BX hS₂ rfl ?_)
  have hS₃ := Heap.get?_update_self (Obj.mapSeq (·.push Value.none)) hS₂ rfl
  refine BX (hz := by seq_fits) hS₃ rfl ?_
  have hS₄ := Heap.get?_update_self (Obj.mapSeq (·.pop)) hS₃ rfl
  refine yB (qa (plainId_quiet F.plain_extend_loop _) (X5 w h0 hP hX hs _ hob (i₂.list1 (vs := []) .nil ((Heap.SameBut.update ..).trans (Heap.SameBut.update ..)) hS₄)))
theorem Xi {E:yr->yF->Prop} (w:j8 g f I A.in1.in1 len val obj P false X) (h0:len=0) (hP: ∀D ys,P ⟨σ.loc,(D,.list ys)::σ.H⟩) (u: ∀hs (s:yF),obj 0 hs s.gens->(∀p∈hs,s.heap.get? p.1=some p.2)->∃k,s.heap.IsGen I k)
  (hX: ∀D e s',EP g f (λx σ'=>X x/\σ'=⟨σ.loc,(D,.list [])::σ.H⟩) e s'->E e s') (a1:obj 0 hs s.gens) (hi:qF g f hs σ s):
  yP g.M A (call (.type "list") [.ref I]) Q E s:=by
 refine callType_codes (Q₁:=λobj s₁=>obj= .ref s.heap.objs.size/\s₁={s with heap:=s.heap.push {cls:= .type "list",data:= .seq #[]}}) F.called_list (F.typeCall_list_1 _) F.entry_list_init
  (code_list_new _ (qa rfl rfl)) λobj s₁ h₁=>?_
 (refine qc h₁ λJ C=>?_;clear h₁;subst J;subst C)
 have hS:(s.heap.push {cls:= .type "list",data:= .seq #[]}).get? s.heap.objs.size=some {cls:= .type "list",data:= .seq #[]}:=Heap.get?_push_size _ rfl
 have big:=hi.toRep.big
 refine zk (hi.shut) λp sub Z a0=>?_
 have i₂:=qF.back sub big hi.free a0 (Z.push (o:= .list []) (obj:=Bi #[] 0) (qU [] 0 (.nil) rfl))
 refine qy (qj _ hS rfl) (F.args_list_init_2 _ _) (Z0 w h0 (hP _) u (λe s' h=>hX _ e s' h) a1 i₂)
end
noncomputable section
section
variable {g:G} {f:Fx} {n:Nat} {E:QE} {σ:St} {mg mb:Str->Option yr} {Q:QV}
theorem xQ.listX (gk:GOk g mg mb) (ok:FOk g f) (hh:f.hd=none) (I:n+2<W1) {ps:List (Nat × V)} (F:Qp g fa slots d) (hm:m.1= .fix (.ref fa)) (hb:Binds g fa (m.2++xs) [] ps) (aa:x8 (ps.map (·.1))=true) (ab:(ps.all λp=>slots.contains p.1)=true)
    (G:Zc g (n+2+9) slots d ps 0 false X val Need) (hN: ∀D ys,Need ((D,.list ys)::σ.H))
  (hX: ∀x,X x->E x σ):xQ g f n (.fix (.type "list")) m xs [] Q E σ:=Op.mk λaj a vs kw ha hv hk=>by
 rw [hm] at ha
 cases ha
 obtain ⟨hB,u,a0⟩:=F
 unfold Yn at hB
 unfold Binds at hb
 unfold fdO at u hb
 obtain ⟨oc,od,fd,ai,hl,hB⟩:=XE hB
 rw [hl] at u hb
 refine qc (qh hB) λh1 h3=>?_
 refine qc (qh h1) λh1 h2=>?_
 have C:=wI h2
 refine jp (λA s hA hs=>keeps_K a0 s.heap (hs.kin gk ok)) λA s hA hs=>?_
 refine qf (G.run) λa7 J a3=>?_
 refine Dv (kS gk ok hl h1 u C (WJ hA.depth (qq [.nt (.a VA KC) VB] (.nt VA VB) rfl I)) (λs vs kw Z hv hk=>?_) (zu aa) (λp hp=>WK.mp (yY.mp ab p hp)) hs hv hk λa L o' m0 t s' a5 hi hn a6 hg=>?_)
 ·refine qf (hb vs kw hv hk) λa1 e1 e2=>?_
  exact qj a1 (λM A E Q hq=>xp (λa o e=>Z a o (gk.k a o e)) hq 9 _ e1) e2
 intro fv ag ac
 cases ac
 have hk:g.gens.size<=s.gens.size:=hs.gx.size
 have Z:s'.gens[s.gens.size]? =some (.fresh (.func (d.ast ⟨g.tab,fd.scope.names,slots⟩) (Bu fd.scope L fd.globals fd.closure (fd.qualname++".<locals>.") (some fa) fd.code none fd.builtins))):=by rw [hg];exact B7
 have ge:kg g (Bu fd.scope L fd.globals fd.closure (fd.qualname++".<locals>.") (some fa) fd.code none fd.builtins) L slots:=C.ev
 refine kE rfl ?_
 refine Xi (σ:=σ) (JA (A:=A.in1.in1) (nm:= .str fd.name t) (qn:= .str fd.qualname (t+1)) (d:=d) (env:=Bu fd.scope L fd.globals fd.closure (fd.qualname++".<locals>.") (some fa) fd.code none fd.builtins) (val:=val) (X:=X) (fine:=false) (len:=0) (Need:=Need) (P:=λσ=>Need σ.H) gk ok hh hA.in2 I ge a5 rfl hk G.stop (λσ h=>h)) rfl hN (λhs s₀ a4 ht=>?_) (λD e s' zf=>zf.elim λx zf=>zf.elim λσ' zf=>zf.elim λe1 zf=>zf.elim λhr zf=>zf.elim λhx e2=>(qe x _ e1 ((e2 ▸ hr).less (.drop (.refl _))) (hX x hx))) ?_ hi
 ·(refine zc a4 λo mG loc a8=>?_;refine wh a8 λst c₀ t₀ fs₀ a9 oo=>?_;clear a4;subst a9)
  exact XZ _ _ _ _ (ht (a,_) (.head _)) rfl rfl rfl
 refine qW o' m0 _ (qW _ _ _ (vm _ rfl hn a6 Z (.inl (qy rfl rfl rfl)) (λaf f' A' P' H' ah e1 e2 cx ae a2=>?_)))
 subst e2
 have x1:=cx.2.one
 exact j6 gk C.co (by unfold Bm;rw [show (Bu fd.scope L fd.globals fd.closure (fd.qualname++".<locals>.") (some fa) fd.code none fd.builtins).scope.kind= .function from C.kind];rfl) h3 a7 J cx a2 (a3 af f' x1.ok x1.hd e1 ae)
end
end
open Mine.Internal.E renaming loc → H8, int → Ia, cel → Ib, attr → Ic, call → Ie, bin → Ig, glb → Ih, cmp → Ij, meth → Ik, sub → Io, bool → It, sym → IA, list → ID, slc → IS, none → IT, byt → I1, tup → I9
open Mine.Internal.qt renaming bool → H9
open Mine.Internal.qG renaming list → Ii
open Mine.Internal.S renaming asg → Il, ite → Iq, asa → Iw, exp → IC, ret → IL, asc → IM, for_ → IU, aug → I2, ass → I8
open Mine.Internal.Binds renaming two → Im, three → IN, one → I0
open Mine.Internal.qs renaming def0 → Ip, mono → I5
open Mine.Internal.ql renaming a → Ir, m → IZ, s → I7
open Mine.Internal.qb renaming fnR → Iu, len → IH, fn → IK, range2 → IV, lenB → IW, append → I4, range1 → I6
open Mine.Internal.qo renaming mod → Iv, add → Iz, sub → IB, mul → IP, div → IQ
open Mine.Internal.qm renaming eq → Ix, le → IE, neSm2 → IF, isBool → I3
open Mine.Internal.Sub renaming append → Iy
open Mine.Internal.qp renaming perm → IG
open Mine.Internal.zE renaming listM → II
open Mine.Internal.zj renaming list → IJ
open Mine.Internal.UnP renaming neg → IX
open Mine.Internal.Wk renaming take → IY
open Mine.Internal.zG renaming div → Ma
noncomputable def b_init_check:List SX:=
 [Iq (E.not (Ic (H8 0 27011014) 0 27011026) 27007026)
  [S.rai (Ie (Ih 1 28014028) [(IA 2 28029098)] [] 28014099) 28008099]
  [] 1027004099]
noncomputable def ZT:List Nat:=[3]
noncomputable def ZO:List Nat:=[]
noncomputable def b_readonly_check:List SX:=
 [Iq (Ic (H8 0 59007010) 26 59007023)
  [S.rai (Ie (Ih 1 60014028) [(IA 169 60029107)] [(29,(Ic (Ih 29 60115120) 168 60115126),60109126)] 60014127) 60008127]
  [] 1059004127]
noncomputable def wv:List Nat:=[3]
noncomputable def wg:List Nat:=[]
noncomputable def jO:List SX:=
 [Iw (H8 0 32008012) 4 (H8 1 32020024) 32008017 32008024,
 Iw (H8 0 33008012) 5 (H8 2 33029034) 33008026 33008034,
 Iw (H8 0 34008012) 6 (Ia 0 34018019) 34008015 34008019]
noncomputable def QC:List Nat:=[7,4,8]
noncomputable def Qa:List Nat:=[]
noncomputable def b_Octets_seek:List SX:=
 [Iw (H8 0 46008012) 6 (H8 1 46018020) 46008015 46008020]
noncomputable def QG:List Nat:=[7,6]
noncomputable def QU:List Nat:=[]
noncomputable def b_Octets_read:List SX:=
 [Il (.one 2 49008013) (IS (Ic (H8 0 49016020) 4 49016025) (some (Ic (H8 0 49026030) 6 49026033)) (some (Ig .Add (Ic (H8 0 49034038) 6 49034041) (H8 1 49044048) 49034048)) 49016049 49026048) 49008049,
 S.aua (H8 0 50008012) 6 .Add (Ie (Ih 9 50019022) [(H8 2 50023028)] [] 50019029) 50008015 50008029,
 IL (H8 2 51015020) 51008020]
noncomputable def QO:List Nat:=[7,10,11]
noncomputable def QX:List Nat:=[]
noncomputable def b_Octets_write:List SX:=
 [Il (.one 2 54008013) (Ig .Add (IS (Ic (H8 0 54016020) 4 54016025) none (some (Ic (H8 0 54027031) 6 54027034)) 54016035 54026034) (Ig .Mult (I1 [0] 54038045) (Ig .Sub (Ic (H8 0 54049053) 6 54049056) (Ie (Ih 9 54059062) [(Ic (H8 0 54063067) 4 54063072)] [] 54059073) 54049073) 54038074) 54016074) 54008074,
 Iw (H8 0 55008012) 4 (Ig .Add (Ig .Add (H8 2 55020025) (H8 1 55028032) 55020032) (IS (Ic (H8 0 55035039) 4 55035044) (some (Ig .Add (Ic (H8 0 55045049) 6 55045052) (Ie (Ih 9 55055058) [(H8 1 55059063)] [] 55055064) 55045064)) none 55035066 55045065) 55020066) 55008017 55008066,
 S.aua (H8 0 56008012) 6 .Add (Ie (Ih 9 56019022) [(H8 1 56023027)] [] 56019028) 56008015 56008028]
noncomputable def Qk:List Nat:=[7,4,170]
noncomputable def QA:List Nat:=[]
noncomputable def QL:List SX:=
 [Iw (H8 0 75008012) 12 (IT 75019023) 75008016 75008023,
 Iw (H8 0 76008012) 13 (H8 2 76026032) 76008023 76008032,
 Iw (H8 0 77008012) 14 (Ia 0 77025026) 77008022 77008026,
 Iw (H8 0 78008012) 15 (IT 78026030) 78008023 78008030,
 Iw (H8 0 79008012) 16 (IT 79024028) 79008021 79008028,
 Iw (H8 0 80008012) 17 (Ia 0 80031032) 80008028 80008032,
 Iw (H8 0 81008012) 18 (Ia 0 81032033) 81008029 81008033,
 Iw (H8 0 82008012) 19 (Ia 0 82033034) 82008030 82008034,
 Iw (H8 0 83008012) 20 (Ia 0 83033034) 83008030 83008034,
 Iw (H8 0 84008012) 21 (Ia 0 84034035) 84008031 84008035,
 Iw (H8 0 85008012) 23 (Ic (H8 0 85024028) 22 85024045) 85008021 85008045,
 Iw (H8 0 86008012) 24 (E.dict0 86019021) 86008016 86008021,
 Iw (H8 0 87008012) 0 (It false 87027032) 87008024 87008032,
 Iw (H8 0 88008012) 25 (H8 1 88024032) 88008021 88008032,
 Iw (H8 0 89008012) 26 (It true 89028032) 89008025 89008032,
 Iw (H8 0 90008012) 27 (H8 3 90025034) 90008022 90008034]
noncomputable def QW:List Nat:=[7,25,28,27]
noncomputable def QN:List Nat:=[]
noncomputable def b_PyFat_set_fp:List SX:=
 [Iq (Ij .IsNot (Ic (H8 0 93011015) 12 93011019) (IT 93027031) 93011031)
  [S.rai (Ie (Ih 1 94018032) [(IA 31 94033109)] [(29,(Ic (Ih 29 94117122) 30 94117129),94111129)] 94018130) 94012130]
  [] 1093008130,
 Iw (H8 0 95008012) 12 (H8 1 95019021) 95008016 95008021]
noncomputable def Qq:List Nat:=[7,32]
noncomputable def Qo:List Nat:=[]
noncomputable def b_PyFat_seek:List SX:=
 [Iq (Ij .Is (Ic (H8 0 98011015) 12 98011019) (IT 98023027) 98011027)
  [S.rai (Ie (Ih 1 99018032) [(IA 34 99033069)] [(29,(Ic (Ih 29 99077082) 33 99077088),99071088)] 99018089) 99012089]
  [] 1098008089,
 IC (Ik (Ic (H8 0 100008012) 12 100008016) 35 [(Ig .Add (H8 1 100022029) (Ic (H8 0 100032036) 13 100032047) 100022047)] [] 100008021 100008048) 100008048]
noncomputable def Zv:List Nat:=[7,36]
noncomputable def ZS:List Nat:=[]
noncomputable def b_PyFat_read_cluster_contents:List SX:=
 [IC (Ie (Ih 37 103008018) [(H8 0 103019023)] [] 103008024) 103008024,
 Il (.one 2 104008010) (Ic (H8 0 104013017) 19 104013035) 104008035,
 Il (.one 3 105008023) (Ik (H8 0 105026030) 38 [(H8 1 105056063)] [] 105026055 105026064) 105008064,
 IC (Ik (H8 0 106008012) 39 [(H8 3 106019034)] [] 106008018 106008035) 106008035,
 IL (Ik (Ic (H8 0 107015019) 12 107015023) 40 [(H8 2 107029031)] [] 107015028 107015032) 107008032]
noncomputable def xz:List Nat:=[7,41,42,43]
noncomputable def xy:List Nat:=[]
noncomputable def b_PyFat_write_data_to_address:List SX:=
 [IC (Ie (Ih 37 137008018) [(H8 0 137019023)] [] 137008024) 137008024,
 IC (Ie (Ih 176 138008023) [(H8 0 138024028)] [] 138008029) 138008029,
 IC (Ik (H8 0 139008012) 39 [(H8 2 139019026)] [] 139008018 139008027) 139008027,
 IC (Ik (Ic (H8 0 140008012) 12 140008016) 8 [(H8 1 140023027)] [] 140008022 140008028) 140008028]
noncomputable def xv:List Nat:=[7,4,36]
noncomputable def xx:List Nat:=[]
noncomputable def b_PyFat_free_cluster_chain:List SX:=
 [IC (Ie (Ih 37 143008018) [(H8 0 143019023)] [] 143008024) 143008024,
 IC (Ie (Ih 176 144008023) [(H8 0 144024028)] [] 144008029) 144008029,
 Il (.one 2 145008017) (Io (Io (Ic (H8 0 145020024) 203 145020043) (Ic (H8 0 145044048) 23 145044057) 145020058) (IA 204 145059073) 145020074) 145008074,
 Il (.one 3 146008015) (Ik (Ic (H8 0 146018022) 24 146018026) 205 [] [] 146018031 146018033) 146008033,
 S.forM (.one 4 147012014) (H8 0 147018022) 206 [(H8 1 147041048)] []
  [I8 (H8 3 148012019) (H8 4 148020022) (H8 2 148026035) 148012023 148012035,
   Iw (H8 0 149012016) 21 (Ie (Ih 160 149038041) [(H8 4 149042044),(Ic (H8 0 149046050) 21 149046069)] [] 149038070) 149012035 149012070]
  [] 147018040 147018049 2147008070,
 Iw (H8 0 150008012) 24 (H8 3 150019026) 150008016 150008026]
noncomputable def xS:List Nat:=[7,41,207,208,209]
noncomputable def xK:List Nat:=[]
noncomputable def b_PyFat_write_data_to_cluster:List SX:=
 [IC (Ie (Ih 37 153008018) [(H8 0 153019023)] [] 153008024) 153008024,
 IC (Ie (Ih 176 154008023) [(H8 0 154024028)] [] 154008029) 154008029,
 Il (.one 5 155008015) (Ie (Ih 9 155018021) [(H8 1 155022026)] [] 155018027) 155008027,
 Il (.one 6 156008018) (Ia 0 156021022) 156008022,
 Il (.one 7 157008020) (IT 157023027) 157008027,
 S.forM (.one 8 158012013) (H8 0 158017021) 206 [(H8 2 158040047)] []
  [I2 6 .Add (Ic (H8 0 159026030) 19 159026048) 159012022 159012048,
   Il (.one 7 160012024) (H8 8 160027028) 160012028,
   Iq (Ij .GtE (H8 6 161015025) (H8 5 161029036) 161015036)
    [S.brk 162016021]
    [] 1161012021]
  [] 158017039 158017048 4158008021,
 Iq (Ij .Gt (H8 5 163011018) (H8 6 163021031) 163011031)
  [Iq (Ij .Is (H8 3 164015029) (It false 164033038) 164015038)
    [S.rai (Ie (Ih 1 165022036) [(IA 211 165037096)] [(29,(Ic (Ih 29 165104109) 210 165104116),165098116)] 165022117) 165016117]
    [] 1164012117,
   Il (.one 9 166012021) (Io (Ik (H8 0 166024028) 213 [(Ig .Sub (H8 5 166044051) (H8 6 166054064) 166044064)] [(212,(H8 4 166072077),166066077)] 166024043 166024078) (Ia 0 166079080) 166024081) 166012081,
   I8 (Ic (H8 0 167012016) 24 167012020) (H8 7 167021033) (H8 9 167037046) 167012034 167012046]
  [] 4163008046,
 Iq (H8 4 168011016)
  [Il (.one 10 169012018) (Ie (Ih 106 169021024) [(Ia 1 169025026),(E.un .USub (Ig .FloorDiv (E.un .USub (H8 5 169031038) 169030038) (Ic (H8 0 169042046) 19 169042064) 169030064) 169028065)] [] 169021066) 169012066,
   I2 10 .Mult (Ic (H8 0 170022026) 19 170022044) 170012018 170012044,
   I2 1 .Add (Ig .Mult (I1 [0] 171020027) (Ig .Sub (H8 10 171031037) (H8 5 171040047) 171031047) 171020048) 171012016 171012048]
  [] 3168008048,
 Il (.one 11 172008021) (Ia 0 172024025) 172008025,
 S.forM (.one 8 173012013) (H8 0 173017021) 206 [(H8 2 173040047)] []
  [Il (.one 12 174012013) (Ik (H8 0 174016020) 38 [(H8 8 174046047)] [] 174016045 174016048) 174012048,
   Il (.one 13 175012013) (H8 11 175016029) 175012029,
   I2 11 .Add (Ic (H8 0 176029033) 19 176029051) 176012025 176012051,
   IC (Ik (H8 0 177012016) 214 [(IS (H8 1 177040044) (some (H8 13 177045046)) (some (H8 11 177047060)) 177040061 177045060),(H8 12 177063064)] [] 177012039 177012065) 177012065,
   Iq (Ij .GtE (H8 11 178015028) (Ie (Ih 9 178032035) [(H8 1 178036040)] [] 178032041) 178015041)
    [S.brk 179016021]
    [] 1178012021]
  [] 173017039 173017048 6173008021]
noncomputable def xA:List Nat:=[7,4,41,215,212,216,217,218,219,220,221,222,173,223]
noncomputable def xC:List Nat:=[]
noncomputable def b_PyFat_calc_num_clusters:List SX:=
 [Il (.one 2 185008020) (E.un .USub (Ig .FloorDiv (E.un .USub (H8 1 185026030) 185025030) (Ic (H8 0 185034038) 19 185034056) 185025056) 185023057) 185008057,
 IL (H8 2 186015027) 186008027]
noncomputable def xU:List Nat:=[7,10,224]
noncomputable def xX:List Nat:=[]
noncomputable def b_PyFat_allocate_bytes:List SX:=
 [IC (Ie (Ih 37 189008018) [(H8 0 189019023)] [] 189008024) 189008024,
 IC (Ie (Ih 176 190008023) [(H8 0 190024028)] [] 190008029) 190008029,
 Il (.one 3 191008017) (Io (Io (Ic (H8 0 191020024) 203 191020043) (Ic (H8 0 191044048) 23 191044057) 191020058) (IA 204 191059073) 191020074) 191008074,
 Il (.one 4 192008016) (Io (Io (Ic (H8 0 192019023) 203 192019042) (Ic (H8 0 192043047) 23 192043056) 192019057) (IA 225 192058076) 192019077) 192008077,
 Il (.one 5 193008016) (Io (Io (Ic (H8 0 193019023) 203 193019042) (Ic (H8 0 193043047) 23 193043056) 193019057) (IA 226 193058076) 193019077) 193008077,
 Il (.one 6 194008020) (Ik (H8 0 194023027) 227 [(H8 1 194046050)] [] 194023045 194023051) 194008051,
 Il (.one 7 195008021) (ID [] 195024026) 195008026,
 IU (.one 8 196012013) (Ie (Ih 85 196017022) [(Ic (H8 0 196023027) 21 196023046),(Ie (Ih 9 196048051) [(Ic (H8 0 196052056) 24 196052060)] [] 196048061)] [] 196017062)
  [Iq (E.bo true [(Ij .Gt (H8 4 197015023) (H8 8 197026027) 197015027),(Ij .Gt (H8 8 197031032) (H8 5 197035043) 197031043)] 197015043)
    [S.cont 198016024]
    [] 1197012024,
   Iq (Ij .Eq (H8 6 199015027) (Ie (Ih 9 199031034) [(H8 7 199035048)] [] 199031049) 199015049)
    [S.brk 200016021]
    [] 1199012021,
   Iq (Ij .Eq (Io (Ic (H8 0 201015019) 24 201015023) (H8 8 201024025) 201015026) (H8 3 201030039) 201015039)
    [Iq (Ij .Eq (H8 8 202019020) (Io (Io (Ic (H8 0 202024028) 203 202024047) (Ic (H8 0 202048052) 23 202048061) 202024062) (IA 228 202063076) 202024077) 202019077)
     [S.cont 203020028]
     [] 1202016028,
    Iq (E.bo false [(Ij .Eq (Ic (H8 0 204019023) 23 204019032) (Ic (H8 0 204036040) 56 204036055) 204019055),(Ij .Eq (H8 8 204060061) (Ic (H8 0 204065069) 229 204065087) 204060087)] 204019087)
     [S.cont 205020028]
     [] 1204016028,
    I2 7 .Add (ID [(H8 8 206034035)] 206033036) 206016029 206016036]
    [] 5201012036]
  [Il (.one 9 208012022) (Ig .Mult (Ie (Ih 9 208025028) [(H8 7 208029042)] [] 208025043) (Ic (H8 0 208046050) 19 208046068) 208025068) 208012068,
   S.rai (Ie (Ih 1 209018032) [(E.fstr (IA 230 209035069) (E.fval (H8 1 209070074) 209069075) [(IA 231 209075083),(E.fval (H8 9 209084094) 209083095),(IA 232 209095107)] 209033108)] [(29,(Ic (Ih 29 209116121) 210 209116128),209110128)] 209018129) 209012129] 13196008129,
 Iw (H8 0 210008012) 21 (H8 8 210034035) 210008031 210008035,
 Il (.one 10 211008015) (Io (Io (Ic (H8 0 211018022) 203 211018041) (Ic (H8 0 211042046) 23 211042055) 211018056) (IA 233 211057077) 211018078) 211008078,
 IU (.tup [(8,212012013),(11,212015016)] 0 212012016) (Ie (Ih 171 212020029) [(H8 7 212030043)] [] 212020044)
  [S.try_ [I8 (Ic (H8 0 214016020) 24 214016024) (Io (H8 7 214025038) (H8 8 214039040) 214025041) (Io (H8 7 214045058) (Ig .Add (H8 8 214059060) (Ia 1 214063064) 214059064) 214045065) 214016042 214016065]
    [⟨(Ih 88 215019029),none,[I8 (Ic (H8 0 216016020) 24 216016024) (Io (H8 7 216025038) (H8 8 216039040) 216025041) (H8 10 216045052) 216016042 216016052],1215012052⟩]
    [] 3213012052,
   Iq (Ij .Is (H8 2 217015020) (It true 217024028) 217015028)
    [IC (Ik (H8 0 218016020) 39 [(Ik (H8 0 218027031) 38 [(Io (H8 7 218057070) (H8 8 218071072) 218057073)] [] 218027056 218027074)] [] 218016026 218016075) 218016075,
    IC (Ik (Ic (H8 0 219016020) 12 219016024) 8 [(Ig .Mult (I1 [0] 219031038) (Ic (H8 0 219041045) 19 219041063) 219031063)] [] 219016030 219016064) 219016064]
    [] 2217012064]
  [] 7212008064,
 IL (H8 7 220015028) 220008028]
noncomputable def jx:List Nat:=[7,10,212,234,235,236,224,237,99,238,239,240]
noncomputable def jC:List Nat:=[]
noncomputable def b_PyFat_get_data_cluster_address:List SX:=
 [Il (.one 2 247008014) (Ig .Add (Ig .Mult (Ig .Sub (H8 1 247018025) (Ia 2 247028029) 247018029) (Io (Ic (H8 0 247033037) 15 247033048) (IA 50 247049065) 247033066) 247017066) (Ic (H8 0 247069073) 20 247069091) 247017091) 247008091,
 IL (Ig .Mult (H8 2 248015021) (Io (Ic (H8 0 248024028) 15 248024039) (IA 51 248040056) 248024057) 248015057) 248008057]
noncomputable def xb:List Nat:=[7,41,52]
noncomputable def xf:List Nat:=[]
noncomputable def qT:GD:=
 ⟨[IC (Ie (Ih 37 251008018) [(H8 0 251019023)] [] 251008024) 251008024,
  Il (.one 2 252008020) (Io (Ic (H8 0 252023027) 203 252023046) (Ic (H8 0 252047051) 23 252047060) 252023061) 252008061,
  Il (.one 3 253008024) (Io (H8 2 253027039) (IA 225 253040058) 253027059) 253008059,
  Il (.one 4 254008024) (Io (H8 2 254027039) (IA 226 254040058) 254027059) 254008059,
  Il (.one 5 255008015) (Io (H8 2 255018030) (IA 241 255031051) 255018052) 255008052,
  Il (.one 6 256008015) (Io (H8 2 256018030) (IA 233 256031051) 256018052) 256008052,
  Il (.one 7 257008009) (H8 1 257012025) 257008025],
  (Ij .LtE (H8 7 258014015) (Ie (Ih 9 258019022) [(Ic (H8 0 258023027) 24 258023031)] [] 258019032) 258014032),
  [Y.ite (E.cmp2 .LtE .LtE (H8 3 259015031) (Io (Ic (H8 0 259035039) 24 259035043) (H8 7 259044045) 259035046) (H8 4 259050066) 259015066)
   [Y.y (H8 7 260022023) 260016023 260016023]
   [Y.ite (E.bo false [(Ij .Eq (Ic (H8 0 261017021) 23 261017030) (Ic (H8 0 261034038) 56 261034053) 261017053),(Ij .Eq (Io (Ic (H8 0 261058062) 24 261058066) (H8 7 261067068) 261058069) (Ic (H8 0 261073077) 229 261073095) 261058095)] 261017095)
     [Y.y (H8 7 262022023) 262016023 262016023,
     Y.s (S.ret0 263016022)]
     [Y.ite (E.cmp2 .LtE .LtE (H8 5 264017024) (Io (Ic (H8 0 264028032) 24 264028036) (H8 7 264037038) 264028039) (H8 6 264043050) 264017050)
      [Y.y (H8 7 265022023) 265016023 265016023,
       Y.s (S.ret0 266016022)]
      [Y.s (Iq (Ij .Eq (Io (Ic (H8 0 267017021) 24 267017025) (H8 7 267026027) 267017028) (Io (H8 2 267032044) (IA 228 267045058) 267032059) 267017059)
        [S.rai (Ie (Ih 1 268022036) [(IA 242 268037097)] [] 268022098) 268016098]
        [Iq (Ij .Eq (Io (Ic (H8 0 269017021) 24 269017025) (H8 7 269026027) 269017028) (Io (H8 2 269032044) (IA 204 269045059) 269032060) 269017060)
         [S.rai (Ie (Ih 1 270022036) [(IA 243 270037103)] [] 270022104) 270016104]
         [S.rai (Ie (Ih 1 272022036) [(Ik (IA 244 272037097) 245 [(Ie (Ih 246 272105108) [(Io (Ic (H8 0 272109113) 24 272109117) (H8 7 272118119) 272109120)] [] 272105121)] [] 272037104 272037122)] [] 272022123) 272016123] 3269012123] 5267012123)] 8264012123] 11261012123] 13259012123,
  Y.s (Il (.one 7 273012013) (Io (Ic (H8 0 273016020) 24 273016024) (H8 7 273025026) 273016027) 273012027)],15258008027⟩
noncomputable def zi:List Nat:=[7,247,248,249,250,251,239,99]
noncomputable def zv:List SX:=
 [Iw (H8 0 9008012) 29 (H8 2 9021026) 9008018 9008026]
noncomputable def qH:List Nat:=[7,138,29]
noncomputable def b_law_ask:List SX:=
 [S.try_ [IL (I9 [(It true 286016020),(Ie (H8 0 286022026) [] [] 286022028)] 0 286015029) 286008029]
  [⟨(Ih 1 287011025),none,[IL (I9 [(It false 288016021),(IT 288023027)] 0 288015028) 288008028],1287004028⟩]
  [] 3285004028]
noncomputable def Uy:List Nat:=[179]
noncomputable def Uw:List Nat:=[]
noncomputable def b_law_table:List SX:=
 [Il (.one 5 290004009) (Ig .Add (ID [(Ig .Sub (H8 1 290013016) (Ia 7 290019020) 290013020),(H8 1 290022025)] 290012026) (Ig .Mult (ID [(Ia 0 290030031)] 290029032) (Ig .Sub (H8 0 290036041) (Ia 2 290044045) 290036045) 290029046) 290012046) 290004046,
 IU (.one 6 291008009) (H8 2 291013017)
  [I8 (H8 5 292008013) (H8 6 292014015) (Ig .Sub (H8 1 292019022) (Ia 8 292025026) 292019026) 292008016 292008026]
  [] 1291004026,
 IU (.tup [(7,293008013),(8,293015019)] 0 293008019) (Ie (Ih 252 293023026) [(H8 3 293027033),(H8 4 293035040)] [] 293023041)
  [IU (.tup [(6,294012013),(9,294015020)] 0 294012020) (Ie (Ih 252 294024027) [(H8 7 294028033),(Ig .Add (IS (H8 7 294035040) (some (Ia 1 294041042)) none 294035044 294041043) (ID [(H8 8 294048052)] 294047053) 294035053)] [] 294024054)
    [I8 (H8 5 295012017) (H8 6 295018019) (H8 9 295023028) 295012020 295012028]
    [] 1294008028]
  [] 2293004028,
 IL (H8 5 296011016) 296004016]
noncomputable def Z8:List Nat:=[162,253,254,255,256,257,219,258,259,260]
noncomputable def Xj:List Nat:=[]
noncomputable def b_law_same:List SX:=
 [Iq (E.bo true [(Ij .NotEq (Ic (Ib 84 298007011) 24 298007015) (H8 1 298019024) 298007024),(Ij .NotEq (Ic (H8 0 298028032) 4 298028037) (Ik (I1 [] 298041044) 261 [(H8 2 298050055)] [] 298041049 298041056) 298028056)] 298007056)
  [IL (It false 299015020) 299008020]
  [] 1298004020,
 IL (Ij .Eq (E.comp [(141,.local),(258,.local),(189,.globalImplicit),(84,.free)] [258] (.one 0 300055060) (H8 3 300064070) (E.callG (Ih 189 300012016) (Ib 84 300017021) 206 [(Io (H8 0 300040045) (Ia 0 300046047) 300040048)] [] 300017039 300017049 300012050) 300011071) (H8 3 300075081) 300011081) 300004081]
noncomputable def XU:List Nat:=[82,257,262,255]
noncomputable def XV:List Nat:=[84]
noncomputable def Zt:List SX:=
 [IM 267 (Ig .Mod (Ib 266 344019020) (Ia 25 344023025) 344019025) 344012016 344012025,
    IM 268 (Ij .Eq (Ig .Mod (Ig .FloorDiv (Ib 266 345021022) (Ia 25 345026028) 345021028) (Ia 2 345031032) 345021032) (Ia 1 345036037) 345021037) 345012018 345012037,
    Il (.one 14 346012016) (E.un .USub (Ig .FloorDiv (E.un .USub (Ib 267 346022026) 346021026) (Ia 4 346030031) 346021031) 346019032) 346012032,
    Il (.one 15 347012016) (E.bo false [(E.not (H8 12 347023027) 347019027),(Ij .LtE (H8 14 347032036) (Ie (Ih 9 347040043) [(Ib 263 347044048)] [] 347040049) 347032049)] 347019049) 347012049,
    Il (.one 16 348012016) (Ie (Ih 269 348019027) [(E.lam [(84,.free),(267,.free),(268,.free)] (Ik (Ib 84 348036040) 213 [(Ib 267 348056060),(Ib 268 348062068)] [] 348036055 348036069) 348028069)] [] 348019070) 348012070,
    Iq (Ij .NotEq (H8 16 349015019) (I9 [(H8 15 349024028),(E.ite (H8 15 349045049) (IS (Ib 263 349030034) none (some (H8 14 349036040)) 349030041 349035040) (IT 349055059) 349030059)] 0 349023060) 349015060)
     [IL (It false 350023028) 350016028]
     [] 1349012028,
    Iq (E.bo false [(H8 15 351015019),(Ij .Gt (H8 14 351024028) (Ia 0 351031032) 351024032)] 351015032)
     [IC (Ik (H8 9 352016022) 264 [(IS (Ib 263 352030034) none (some (H8 14 352036040)) 352030041 352035040)] [] 352016029 352016042) 352016042,
      IC (Ik (H8 10 353016021) 264 [(Ib 253 353029032)] [] 353016028 353016033) 353016033,
      Iq (Ib 268 354019025)
       [IU (.one 5 355024025) (IS (Ib 263 355029033) none (some (H8 14 355035039)) 355029040 355034039)
        [I8 (Ib 262 356024029) (H8 5 356030031) (Ig .Mult (I1 [0] 356035042) (Ia 4 356045046) 356035046) 356024032 356024046]
        [] 1355020046]
       [] 2354016046]
     [] 5351012046]
noncomputable def vg:List SX:=
 [Il (.one 17 358012013) (Ig .Mod (Ig .Mod (Ib 266 358016017) (Ia 16 358020022) 358016022) (Ie (Ih 9 358025028) [(H8 9 358029035)] [] 358025036) 358016036) 358012036,
      IM 270 (Io (Io (H8 9 359020026) (H8 17 359027028) 359020029) (Ia 0 359030031) 359020032) 359012017 359012032,
      Iq (Ij .NotEq (Ie (Ih 269 360015023) [(E.lam [(84,.free),(270,.free)] (Ik (Ib 84 360032036) 271 [(Ib 270 360056061)] [] 360032055 360032062) 360024062)] [] 360015063) (I9 [(E.not (H8 12 360072076) 360068076),(IT 360078082)] 0 360067083) 360015083)
       [IL (It false 361023028) 361016028]
       [] 1360012028,
      Iq (E.not (H8 12 362019023) 362015023)
       [IC (Ik (H8 9 363016022) 92 [(H8 17 363027028)] [] 363016026 363016029) 363016029,
       IC (Ik (H8 10 364016021) 92 [(H8 17 364026027)] [] 364016025 364016028) 364016028]
       [] 2362012028]
noncomputable def jS:List SX:=
 [Il (.one 17 366012013) (Ig .Mod (Ig .Mod (Ib 266 366016017) (Ia 16 366020022) 366016022) (Ie (Ih 9 366025028) [(H8 9 366029035)] [] 366025036) 366016036) 366012036,
       Il (.one 6 367012017) (Io (H8 9 367020026) (H8 17 367027028) 367020029) 367012029,
       Il (.one 18 368012013) (Ig .Mod (Ig .Mod (Ig .FloorDiv (Ib 266 368016017) (Ia 16 368021023) 368016023) (Ia 16 368026028) 368016028) (Ie (Ih 9 368031034) [(H8 6 368035040)] [] 368031041) 368016041) 368012041,
       IM 267 (Ig .Mod (Ig .FloorDiv (Ib 266 369019020) (Ia 256 369024027) 369019027) (Ia 25 369030032) 369019032) 369012016 369012032,
       IM 270 (Io (H8 6 370020025) (H8 18 370026027) 370020028) 370012017 370012028,
       IM 272 (Ij .NotEq (H8 13 371021025) (Ia 3 371029030) 371021030) 371012018 371012030,
       IM 268 (E.bo true [(Ij .Eq (H8 13 372021025) (Ia 4 372029030) 372021030),(E.bo false [(Ij .Eq (H8 13 372035039) (Ia 3 372043044) 372035044),(Ij .Eq (Ig .Mod (Ig .FloorDiv (Ib 266 372049050) (Ia 6400 372054058) 372049058) (Ia 2 372061062) 372049062) (Ia 1 372066067) 372049067)] 372035067)] 372021068) 372012018 372012068,
       Il (.one 14 373012016) (Ie (Ih 106 373019022) [(Ia 1 373023024),(E.un .USub (Ig .FloorDiv (E.un .USub (Ib 267 373029033) 373028033) (Ia 4 373037038) 373028038) 373026039)] [] 373019040) 373012040,
       Il (.one 19 374012016) (Ie (Ih 106 374019022) [(Ia 0 374023024),(Ig .Add (Ig .Sub (H8 14 374026030) (Ie (Ih 9 374033036) [(H8 6 374037042)] [] 374033043) 374026043) (H8 18 374046047) 374026047)] [] 374019048) 374012048,
       Il (.one 15 375012016) (E.bo false [(E.not (H8 12 375023027) 375019027),(E.bo true [(Ij .Eq (H8 19 375033037) (Ia 0 375041042) 375033042),(E.bo false [(Ib 272 375047053),(Ij .LtE (H8 19 375058062) (Ie (Ih 9 375066069) [(Ib 263 375070074)] [] 375066075) 375058075)] 375047075)] 375033076)] 375019077) 375012077,
       IM 274 (Ie (Ih 104 376018023) [(E.comp [(141,.local),(223,.local),(273,.free)] [223] (.one 0 376054055) (Ie (Ih 85 376059064) [(Ib 267 376065069)] [] 376059070) (Ig .Add (Ia 128 376025028) (Ig .Mod (Ig .Add (Ig .Mult (Ia 17 376032034) (Ib 273 376037038) 376032038) (H8 0 376041042) 376032042) (Ia 128 376046049) 376031049) 376025049) 376024071)] [] 376018072) 376012015 376012072,
       Iq (Ij .NotEq (Ie (Ih 269 377015023) [(E.lam [(84,.free),(272,.free),(274,.free),(270,.free),(268,.free)] (Ik (Ib 84 377032036) 275 [(Ib 274 377059062),(Ib 270 377064069),(Ib 272 377071077),(Ib 268 377079085)] [] 377032058 377032086) 377024086)] [] 377015087) (I9 [(H8 15 377092096),(IT 377098102)] 0 377091103) 377015103)
        [IL (It false 378023028) 378016028]
        [] 1377012028,
       Iq (H8 15 379015019)
        [Iq (Ij .Gt (H8 19 380019023) (Ia 0 380026027) 380019027)
          [I8 (H8 9 381020026) (H8 17 381027028) (Ig .Add (H8 6 381032037) (IS (Ib 263 381040044) none (some (H8 19 381046050)) 381040051 381045050) 381032051) 381020029 381020051,
          I8 (H8 10 382020025) (H8 17 382026027) (Ib 253 382031034) 382020028 382020034]
          [] 2380016034,
         IU (.tup [(20,383020021),(5,383023024)] 0 383020024) (Ie (Ih 171 383028037) [(IS (Io (H8 9 383038044) (H8 17 383045046) 383038047) (some (H8 18 383048049)) (some (Ig .Add (H8 18 383050051) (H8 14 383054058) 383050058)) 383038059 383048058)] [] 383028060)
          [Il (.one 21 384020024) (IS (Ib 274 384027030) (some (Ig .Mult (Ia 4 384031032) (H8 20 384035036) 384031036)) (some (Ig .Add (Ig .Mult (Ia 4 384037038) (H8 20 384041042) 384037042) (Ia 4 384045046) 384037046)) 384027047 384031046) 384020047,
          I8 (Ib 262 385020025) (H8 5 385026027) (Ig .Add (H8 21 385031035) (IS (E.ite (Ib 268 385054060) (Ig .Mult (I1 [0] 385039046) (Ia 4 385049050) 385039050) (Io (Ib 262 385066071) (H8 5 385072073) 385066074) 385039074) (some (Ie (Ih 9 385076079) [(H8 21 385080084)] [] 385076085)) none 385038087 385076086) 385031087) 385020028 385020087]
          [] 2383016087]
        [] 6379012087]
noncomputable def Jg:List SX:=
 [S.aclI 22 387012019 [(141,.local),(219,.local),(257,.free),(253,.free)] [219] (.one 0 387029030) (Ie (Ih 85 387034039) [(Ia 2 387040041),(H8 3 387043048)] [] 387034049) (Ij .In (Io (Ib 257 387053058) (H8 0 387059060) 387053061) (I9 [(Ia 0 387066067),(Ig .Sub (Ib 253 387069072) (Ia 8 387075076) 387069076)] 0 387065077) 387053077) (H8 0 387023024) 387022078 387012078,
         IM 270 (Io (H8 22 388020027) (Ig .Mod (Ig .Mod (Ib 266 388028029) (Ia 16 388032034) 388028034) (Ie (Ih 9 388037040) [(H8 22 388041048)] [] 388037049) 388028049) 388020050) 388012017 388012050,
         Il (.one 23 389012015) (Ig .Mod (Ig .FloorDiv (Ib 266 389018019) (Ia 16 389023025) 389018025) (Ia 3 389028029) 389018029) 389012029,
         Iq (Ij .Eq (H8 23 390015018) (Ia 0 390022023) 390015023)
          [Il (.one 16 391016020) (Ie (Ih 269 391023031) [(E.lam [(84,.free),(270,.free)] (Ik (Ib 84 391040044) 271 [(Ib 270 391064069)] [] 391040063 391040070) 391032070)] [] 391023071) 391016071]
          [Iq (Ij .Eq (H8 23 392017020) (Ia 1 392024025) 392017025)
           [Il (.one 16 393016020) (Ie (Ih 269 393023031) [(E.lam [(84,.free),(270,.free),(189,.globalImplicit)] (E.callG (Ih 189 393040044) (Ib 84 393045049) 206 [(Ib 270 393068073)] [] 393045067 393045074 393040075) 393032075)] [] 393023076) 393016076]
           [Il (.one 16 395016020) (Ie (Ih 269 395023031) [(E.lam [(84,.free),(270,.free),(266,.free)] (Ik (Ib 84 395040044) 275 [(I1 [110,101,119] 395067073),(Ib 270 395075080),(It true 395082086),(Ij .Eq (Ig .Mod (Ig .FloorDiv (Ib 266 395088089) (Ia 48 395093095) 395088095) (Ia 2 395098099) 395088099) (Ia 1 395103104) 395088104)] [] 395040066 395040105) 395032105)] [] 395023106) 395016106] 3392012106] 5390012106,
         Iq (Ij .NotEq (H8 16 396015019) (I9 [(It false 396024029),(IT 396031035)] 0 396023036) 396015036)
          [IL (It false 397023028) 397016028]
          [] 1396012028]
noncomputable def vq:List SX:=
 [IU (.one 6 402016021) (H8 9 402025031)
           [S.aclG 16 403016020 [(141,.local),(219,.local),(84,.free)] [219] (.one 0 403058059) (Ib 84 403063067) 206 [(Io (H8 6 403086091) (Ia 0 403092093) 403086094)] [] 403063085 403063095 (Ik (Ib 84 403024028) 83 [(H8 0 403051052)] [] 403024050 403024053) 403023096 403016096,
            Iq (Ij .NotEq (H8 16 404019023) (E.comp [(141,.local),(219,.local),(262,.free)] [219] (.one 0 404041042) (H8 6 404046051) (Io (Ib 262 404028033) (H8 0 404034035) 404028036) 404027052) 404019052)
             [IL (It false 405027032) 405020032]
             [] 1404016032]
           [] 3402012032]
noncomputable def UY:List SX:=
 [Il (.one 12 399012016) (E.not (H8 12 399023027) 399019027) 399012027,
          Iw (Ib 84 400012016) 26 (H8 12 400032036) 400012029 400012036]
noncomputable def jf:List SX:=
 [Il (.one 13 338008012) (Ig .Mod (Ib 266 338015016) (Ia 8 338019020) 338015020) 338008020,
   S.auc 266 .FloorDiv (Ia 8 339014015) 339008009 339008015,
   Iq (E.bo false [(E.not (H8 9 340015021) 340011021),(E.cmp2 .LtE .LtE (Ia 1 340026027) (H8 13 340031035) (Ia 4 340039040) 340026040)] 340011040)
    [Il (.one 13 341012016) (Ia 0 341019020) 341012020]
    [] 1340008020,
   IM 263 (E.compI [(141,.local),(219,.local),(257,.free)] [219] (.one 0 342022023) (Ie (Ih 85 342027032) [(Ia 2 342033034),(H8 3 342036041)] [] 342027042) (Ij .Eq (Io (Ib 257 342046051) (H8 0 342052053) 342046054) (Ia 0 342058059) 342046059) (H8 0 342016017) 342015060) 342008012 342008060,
   Iq (Ij .Eq (H8 13 343011015) (Ia 0 343019020) 343011020)
    Zt
    [Iq (Ij .Eq (H8 13 357013017) (Ia 1 357021022) 357013022)
     vg
     [Iq (Ij .LtE (H8 13 365013017) (Ia 4 365021022) 365013022)
       jS
       [Iq (Ij .Eq (H8 13 386013017) (Ia 5 386021022) 386013022)
        Jg
        [Iq (Ij .Eq (H8 13 398013017) (Ia 6 398021022) 398013022)
          UY
          vq 7398008032] 19386008032] 40365008032] 48357008032] 62343008032,
   IM 257 (Ie (Ih 265 406016026) [(H8 3 406027032),(Ib 253 406034037),(Ib 254 406039043),(H8 9 406045051),(H8 10 406053058)] [] 406016059) 406008013 406008059,
   Iq (E.not (Ie (Ih 276 407015024) [(Ib 84 407025029),(H8 11 407031035),(Ib 257 407037042),(Ib 262 407044049),(H8 9 407051057)] [] 407015058) 407011058)
    [IL (It false 408019024) 408012024]
    [] 1407008024]
noncomputable def b_law:List SX:=
 [Il (.one 1 302004005) (E.ite (H8 0 302021027) (Io (H8 0 302008014) (Ia 0 302015016) 302008017) (Ia 0 302033034) 302008034) 302004034,
 Il (.one 2 303004008) (Io (I9 [(Ia 12 303012014),(Ia 16 303016018),(Ia 32 303020022)] 0 303011023) (Ig .Mod (H8 1 303024025) (Ia 3 303028029) 303024029) 303011030) 303004030,
 IM 253 (Io (I9 [(Ia 4095 304011015),(Ia 65535 304017022),(Ia 268435455 304024033)] 0 304010034) (Ig .Mod (H8 1 304035036) (Ia 3 304039040) 304035040) 304010041) 304004007 304004041,
 I2 1 .FloorDiv (Ia 3 305010011) 305004005 305004011,
 Il (.one 3 306004009) (Ig .Add (Ia 9 306012013) (Ig .Mod (H8 1 306016017) (Ia 5 306020021) 306016021) 306012021) 306004021,
 I2 1 .FloorDiv (Ia 5 307010011) 307004005 307004011,
 Il (.one 4 308004009) (Ig .Mod (H8 1 308012013) (Ia 3 308016017) 308012017) 308004017,
 I2 1 .FloorDiv (Ia 3 309010011) 309004005 309004011,
 IM 80 (Ig .Add (Ig .Add (H8 4 310010015) (Ia 2 310018019) 310010019) (Ig .Mult (Ia 2 310022023) (Ig .Mod (H8 1 310027028) (Ia 3 310031032) 310027032) 310022033) 310010033) 310004007 310004033,
 I2 1 .FloorDiv (Ia 3 311010011) 311004005 311004011,
 IM 254 (ID [(Ig .Add (Ia 2 312012013) (Ig .Mod (Ig .Mod (H8 1 312016017) (Ia 16 312020022) 312016022) (Ig .Sub (H8 3 312026031) (Ia 2 312034035) 312026035) 312016036) 312012036),(Ig .Sub (H8 3 312038043) (Ia 1 312046047) 312038047)] 312011048) 312004008 312004048,
 I2 1 .FloorDiv (Ia 16 313010012) 313004005 313004012,
 IM 263 (E.compI [(141,.local),(219,.local),(254,.free)] [219] (.one 0 314018019) (Ie (Ih 85 314023028) [(Ia 2 314029030),(Ig .Sub (H8 3 314032037) (Ia 1 314040041) 314032041)] [] 314023042) (Ij .NotEq (H8 0 314046047) (Io (Ib 254 314051055) (Ia 0 314056057) 314051058) 314046058) (H8 0 314012013) 314011059) 314004008 314004059,
 Il (.one 6 315004009) (ID [] 315012014) 315004014,
 IU (.one 7 316008012) (Ie (Ih 85 316016021) [(Ig .Mod (H8 1 316022023) (Ia 5 316026027) 316022027)] [] 316016028)
  [IC (Ik (H8 6 317008013) 264 [(Ik (Ib 263 317021025) 92 [(Ig .Mod (Ig .Mod (Ig .FloorDiv (Ig .FloorDiv (H8 1 317030031) (Ia 5 317035036) 317030036) (Ig .Pow (Ia 16 317040042) (H8 7 317046050) 317040050) 317030050) (Ia 16 317053055) 317030055) (Ie (Ih 9 317058061) [(Ib 263 317062066)] [] 317058067) 317030067)] [] 317021029 317021068)] [] 317008020 317008069) 317008069]
  [] 1316004069,
 I2 1 .FloorDiv (Ig .Mult (Ia 5 318010011) (Ig .Pow (Ia 16 318014016) (Ia 4 318020021) 318014021) 318010021) 318004005 318004021,
 Il (.one 8 319004008) (E.ite (E.bo false [(Ij .Eq (H8 2 319019023) (Ia 12 319027029) 319019029),(Ij .Eq (Ig .Mod (H8 1 319034035) (Ia 9 319038039) 319034039) (Ia 8 319043044) 319034044)] 319019044) (Ia 4080 319011015) (Ig .Sub (Ib 253 319050053) (Ig .Mod (H8 1 319056057) (Ia 8 319060061) 319056061) 319050061) 319011061) 319004061,
 Il (.one 9 320004010) (E.ite (H8 6 320024029) (ID [(H8 6 320014019)] 320013020) (ID [] 320035037) 320013037) 320004037,
 Il (.one 10 321004009) (E.ite (H8 6 321022027) (ID [(H8 8 321013017)] 321012018) (ID [] 321033035) 321012035) 321004035,
 IM 165 (Ie (Ih 104 322012017) [(E.comp [(141,.local),(99,.local)] [99] (.one 0 322029030) (Ie (Ih 85 322034039) [(Ig .Sub (Ig .Add (Ib 80 322040043) (Ig .Mult (Ia 4 322046047) (H8 3 322050055) 322046055) 322040055) (Ia 4 322058059) 322040059)] [] 322034060) (Ig .Add (Ia 1 322019020) (H8 0 322023024) 322019024) 322018061)] [] 322012062) 322004009 322004062,
 IM 262 (Ig .Add (ID [(IS (Ib 165 323013018) none (some (Ib 80 323020023)) 323013024 323019023),(I1 [] 323026029)] 323012030) (E.comp [(141,.local),(99,.local),(165,.free),(80,.free)] [99] (.one 0 323073074) (Ie (Ih 85 323078083) [(Ig .Sub (H8 3 323084089) (Ia 2 323092093) 323084093)] [] 323078094) (IS (Ib 165 323034039) (some (Ig .Add (Ib 80 323040043) (Ig .Mult (Ia 4 323046047) (H8 0 323050051) 323046051) 323040051)) (some (Ig .Add (Ig .Add (Ib 80 323052055) (Ig .Mult (Ia 4 323058059) (H8 0 323062063) 323058063) 323052063) (Ia 4 323066067) 323052067)) 323034068 323040067) 323033095) 323012095) 323004009 323004095,
 IC (Ik (Ib 262 324004009) 264 [(IS (Ib 165 324017022) (some (Ig .Sub (Ig .Add (Ib 80 324023026) (Ig .Mult (Ia 4 324029030) (H8 3 324033038) 324029038) 324023038) (Ia 8 324041042) 324023042)) none 324017044 324023043)] [] 324004016 324004045) 324004045,
 Il (.one 11 325004008) (Ie (Ih 156 325011017) [(Ib 165 325018023)] [] 325011024) 325004024,
 IM 84 (Ie (Ih 110 326011016) [(IA 184 326017026),(H8 4 326028033)] [] 326011034) 326004008 326004034,
 Iw (Ib 84 327004008) 15 (E.dict [((IA 51 327023039),(Ia 2 327041042)),((IA 50 327044060),(Ia 2 327062063))] 327022064) 327004019 327004064,
 Iw (Ib 84 328004008) 23 (H8 2 328020024) 328004017 328004024,
 Iw (Ib 84 329004008) 24 (Ie (Ih 265 329015025) [(H8 3 329026031),(Ib 253 329033036),(Ib 254 329038042),(H8 9 329044050),(H8 10 329052057)] [] 329015058) 329004012 329004058,
 Iw (Ib 84 330004008) 19 (Ia 4 330029030) 330004026 330004030,
 Iw (Ib 84 331004008) 20 (Ig .FloorDiv (Ig .Sub (Ib 80 331030033) (H8 4 331036041) 331030041) (Ia 2 331046047) 331029047) 331004026 331004047,
 Iw (Ib 84 332004008) 0 (It true 332023027) 332004020 332004027,
 Iw (Ib 84 333004008) 26 (It false 333024029) 333004021 333004029,
 IC (Ik (Ib 84 334004008) 157 [(H8 11 334017021)] [] 334004016 334004022) 334004022,
 IM 257 (Ie (Ih 265 335012022) [(H8 3 335023028),(Ib 253 335030033),(Ib 254 335035039),(H8 9 335041047),(H8 10 335049054)] [] 335012055) 335004009 335004055,
 Il (.one 12 336004008) (It false 336011016) 336004016,
 IU (.tupc [(273,337008009),(266,337011012)] 0 337008012) (Ie (Ih 171 337016025) [(IS (H8 0 337026032) (some (Ia 1 337033034)) (some (Ia 9 337035036)) 337026037 337033036)] [] 337016038)
  jf
  [] 71337004024,
 Iw (Ib 84 409004008) 26 (It false 409024029) 409004021 409004029,
 IU (.one 6 410008013) (H8 9 410017023)
  [IC (Ik (Ib 84 411008012) 271 [(Io (H8 6 411032037) (Ia 0 411038039) 411032040)] [] 411008031 411008041) 411008041]
  [] 1410004041,
 IM 263 (E.compI [(141,.local),(219,.local),(254,.free)] [219] (.one 0 412018019) (Ie (Ih 85 412023028) [(Ia 2 412029030),(H8 3 412032037)] [] 412023038) (Ij .NotIn (H8 0 412042043) (Ib 254 412051055) 412042055) (H8 0 412012013) 412011056) 412004008 412004056,
 Iq (Ij .NotEq (Ic (Ib 84 413007011) 24 413007015) (Ie (Ih 265 413019029) [(H8 3 413030035),(Ib 253 413037040),(Ib 254 413042046),(ID [] 413048050),(ID [] 413052054)] [] 413019055) 413007055)
  [IL (It false 414015020) 414008020]
  [] 1413004020,
 Iq (Ij .NotEq (Ie (Ih 269 415007015) [(E.lam [(84,.free),(263,.free),(9,.globalImplicit)] (Ik (Ib 84 415024028) 213 [(Ig .Mult (Ia 4 415044045) (Ie (Ih 9 415048051) [(Ib 263 415052056)] [] 415048057) 415044057),(It true 415059063)] [] 415024043 415024064) 415016064)] [] 415007065) (I9 [(It true 415070074),(Ib 263 415076080)] 0 415069081) 415007081)
  [IL (It false 416015020) 416008020]
  [] 1415004020,
 Iq (Ij .NotEq (Ie (Ih 269 417007015) [(E.lam [(84,.free)] (Ik (Ib 84 417024028) 213 [(Ia 1 417044045)] [] 417024043 417024046) 417016046)] [] 417007047) (I9 [(It false 417052057),(IT 417059063)] 0 417051064) 417007064)
  [IL (It false 418015020) 418008020]
  [] 1417004020,
 IU (.one 5 419008009) (Ib 263 419013017)
  [I8 (Ib 262 420008013) (H8 5 420014015) (Ig .Mult (I1 [0] 420019026) (Ia 4 420029030) 420019030) 420008016 420008030]
  [] 1419004030,
 IL (Ie (Ih 276 421011020) [(Ib 84 421021025),(H8 11 421027031),(Ie (Ih 265 421033043) [(H8 3 421044049),(Ib 253 421051054),(Ib 254 421056060),(ID [(Ib 263 421063067)] 421062068),(ID [(Ib 253 421071074)] 421070075)] [] 421033076),(Ib 262 421078083),(ID [(Ib 263 421086090)] 421085091)] [] 421011092) 421004092]
noncomputable def yi:List Nat:=[116,193,155,162,185,219,258,277,259,255,256,82,199,179,278,279,129,135,280,281,223,282,283,284]
noncomputable def yd:List Nat:=[268,266,270,263,274,267,272,84,273,257,262,165,254,80,253]
noncomputable def tab:List Str:=[qS "initialized",
 qS "PyFATException",
 qS "Class has not yet been fully initialized, please instantiate first.",
 qS "one",
 qS "data",
 qS "write_allowed",
 qS "at",
 qS "self",
 qS "write",
 qS "len",
 qS "size",
 qS "found",
 qS "_fp",
 qS "_fp_offset",
 qS "_fat_size",
 qS "bpb_header",
 qS "root_dir",
 qS "root_dir_sector",
 qS "root_dir_sectors",
 qS "bytes_per_cluster",
 qS "first_data_sector",
 qS "first_free_cluster",
 qS "FAT_TYPE_UNKNOWN",
 qS "fat_type",
 qS "fat",
 qS "encoding",
 qS "is_read_only",
 qS "lazy_load",
 qS "offset",
 qS "errno",
 qS "EMFILE",
 qS "Cannot overwrite existing file handle, create new class instance of PyFAT.",
 qS "fp",
 qS "ENXIO",
 qS "Cannot seek without a file handle!",
 qS "seek",
 qS "address",
 qS "init_check",
 qS "get_data_cluster_address",
 qS "_seek",
 qS "read",
 qS "cluster",
 qS "sz",
 qS "cluster_address",
 qS "BPB_TotSec16",
 qS "BPB_TotSec32",
 qS "BPB_FATSz16",
 qS "KeyError",
 qS "Invalid FAT size of 0 detected in header, cannot continue",
 qS "BPB_FATSz32",
 qS "BPB_SecPerClus",
 qS "BPB_BytsPerSec",
 qS "sector",
 qS "_get_total_sectors",
 qS "BPB_RsvdSecCnt",
 qS "BPB_NumFATs",
 qS "FAT_TYPE_FAT12",
 qS "FAT_TYPE_FAT16",
 qS "FAT_TYPE_FAT32",
 qS "total_sectors",
 qS "rsvd_sectors",
 qS "fat_sz",
 qS "data_sec",
 qS "count_of_clusters",
 qS "msft_fat_type",
 qS "linux_fat_type",
 qS "_get_fat_size_count",
 qS "_determine_fat_type",
 qS "BPB_RootEntCnt",
 qS "FATDirectoryEntry",
 qS "FAT_DIRECTORY_HEADER_SIZE",
 qS "root_entries",
 qS "hdr_size",
 qS "bytes_per_sec",
 qS "rsvd_secs",
 qS "num_fats",
 qS "cell",
 qS "right",
 qS "width",
 qS "number",
 qS "low",
 qS "high",
 qS "held",
 qS "read_cluster_contents",
 qS "disk",
 qS "range",
 qS "Invalid number of FATs configured, cannot continue",
 qS "Invalid length of FAT",
 qS "IndexError",
 qS "int",
 qS "from_bytes",
 qS "little",
 qS "pop",
 qS "Unknown FAT type, cannot continue",
 qS "AssertionError",
 qS "Unknown error during FAT parsing, please report this error.",
 qS "fat_size",
 qS "first_fat_bytes",
 qS "fats",
 qS "i",
 qS "total_entries",
 qS "curr",
 qS "incr",
 qS "fat_nibble",
 qS "bytes",
 qS "_law_field",
 qS "max",
 qS "BS_jmpBoot",
 qS "BPB_Media",
 qS "_law_power",
 qS "PyFat",
 qS "_verify_bpb_header",
 qS "_law_unread",
 qS "parse_header",
 qS "divmod",
 qS "_law_small",
 qS "script",
 qS "cells",
 qS "jump",
 qS "per",
 qS "kept",
 qS "media",
 qS "copies",
 qS "full",
 qS "root",
 qS "wide",
 qS "head",
 qS "due",
 qS "judge",
 qS "told",
 qS "total",
 qS "begin",
 qS "roots",
 qS "over",
 qS "kinds",
 qS "k",
 qS "super",
 qS "__init__",
 qS "msg",
 qS "Boot code must end with 0x90",
 qS "Boot code must start with 0xEB or 0xE9. Is this a FAT partition?",
 qS ".0",
 qS "x",
 qS "Expected one of ",
 qS " bytes per sector, got: '",
 qS "'.",
 qS " sectors per cluster, got: '",
 qS "Number of reserved sectors must not be 0",
 qS "Invalid media type",
 qS "At least one FAT expected, None found.",
 qS "Root entry count does not cleanly align with bytes per sector!",
 qS "16-Bit and 32-Bit total sector count value empty.",
 qS "byts_per_sec_range",
 qS "sec_per_clus_range",
 qS "root_entry_count",
 qS "kind",
 qS "Octets",
 qS "_set_fp",
 qS "_parse_fat",
 qS "whole",
 qS "min",
 qS "records",
 qS "count",
 qS "foreign",
 qS "sectors",
 qS "image",
 qS "half",
 qS "place",
 qS "EROFS",
 qS "Filesystem has been opened read-only, not able to perform a write operation!",
 qS "ahead",
 qS "enumerate",
 qS "to_bytes",
 qS "b",
 qS "e",
 qS "nibble",
 qS "_readonly_check",
 qS "as_bytes",
 qS "binary_fat",
 qS "deed",
 qS "sum",
 qS "o",
 qS "octets",
 qS "entries",
 qS "latin-1",
 qS "shift",
 qS "each",
 qS "_law_octets",
 qS "_law_mount",
 qS "list",
 qS "_law_refused",
 qS "flush_fat",
 qS "_law_entries",
 qS "v",
 qS "digit",
 qS "laid",
 qS "plain",
 qS "behind",
 qS "ready",
 qS "shut",
 qS "drawn",
 qS "other",
 qS "least",
 qS "FAT_CLUSTER_VALUES",
 qS "FREE_CLUSTER",
 qS "copy",
 qS "get_cluster_chain",
 qS "_freeclus",
 qS "tmp_fat",
 qS "cl",
 qS "ENOSPC",
 qS "Cannot write data to cluster, not enough space available.",
 qS "erase",
 qS "allocate_bytes",
 qS "_write_data_to_address",
 qS "extend_cluster",
 qS "data_sz",
 qS "cluster_sz",
 qS "last_cluster",
 qS "c",
 qS "new_chain",
 qS "new_sz",
 qS "bytes_written",
 qS "t",
 qS "num_clusters",
 qS "MIN_DATA_CLUSTER",
 qS "MAX_DATA_CLUSTER",
 qS "calc_num_clusters",
 qS "BAD_CLUSTER",
 qS "FAT12_SPECIAL_EOC",
 qS "Not enough free space to allocate ",
 qS " bytes (",
 qS " bytes free)",
 qS "END_OF_CLUSTER_MAX",
 qS "free_clus",
 qS "min_clus",
 qS "max_clus",
 qS "free_clusters",
 qS "free_space",
 qS "eoc_max",
 qS "_",
 qS "END_OF_CLUSTER_MIN",
 qS "Bad cluster found in FAT cluster chain, cannot access file",
 qS "FREE_CLUSTER mark found in FAT cluster chain, cannot access file",
 qS "Invalid or unknown FAT cluster entry found with value '{}'",
 qS "format",
 qS "hex",
 qS "first_cluster",
 qS "cluster_vals",
 qS "min_data_cluster",
 qS "max_data_cluster",
 qS "eoc_min",
 qS "zip",
 qS "top",
 qS "bads",
 qS "chains",
 qS "marks",
 qS "table",
 qS "chain",
 qS "mark",
 qS "after",
 qS "join",
 qS "parts",
 qS "room",
 qS "append",
 qS "_law_table",
 qS "w",
 qS "many",
 qS "zeroed",
 qS "_law_ask",
 qS "start",
 qS "free_cluster_chain",
 qS "longer",
 qS "j",
 qS "new",
 qS "write_data_to_cluster",
 qS "_law_same",
 qS "step",
 qS "need",
 qS "good",
 qS "p",
 qS "more",
 qS "part",
 qS "strange",
 qS "way"]
noncomputable def globs:List (Nat × yr):=[(1,.ref 41),(9,.builtin "len"),(29,.ref 54),(37,.ref 65),(176,.ref 136),(85,.type "range"),(88,.type "IndexError"),(104,.type "bytes"),(106,.builtin "max"),(110,.ref 380),(156,.ref 125),(160,.builtin "min"),(171,.type "enumerate"),(189,.type "list"),(246,.builtin "hex"),(252,.type "zip"),(265,.ref 398),(269,.ref 391),(276,.ref 403),(136,.type "super")]
@[reducible] noncomputable def gK (K:B0) (w:DV) (base:W0) (dr:Drawn) (os:F9) (gs:Array Bc):G:={prog:=PySem.Challenge.pw_jj0022_01,w:=w,K:=K,base:=base,tab:=tab,globs:=globs,gens:=gs,drawn:=dr,os:=os}
noncomputable def own4:List (yu × Nat):=[(125,4),(125,5),(125,6),(380,12),(380,13),(380,15),(380,19),(380,20),(380,21),(380,23),(380,24),(380,0),(380,26)]
noncomputable def set4:List (yu × Nat):=[(125,4),(125,5),(125,6),(380,12),(380,13),(380,14),(380,15),(380,16),(380,17),(380,18),(380,19),(380,20),(380,21),(380,23),(380,24),(380,0),(380,25),(380,26),(380,27)]
noncomputable def mth4:List (yu × Nat × yu):=[(125,35,108),(125,40,115),(125,8,122),(380,157,162),(380,39,169),(380,83,176),(380,214,246),(380,271,253),(380,275,261),(380,227,276),(380,213,284),(380,38,349),(380,206,356)]
noncomputable def mk4:List (yu × yu):=[(125,80),(380,155)]
noncomputable def uf:List (yu × Nat × Int):=[(380,22,0),(380,56,12),(380,229,4080)]
noncomputable def ofc4:List (yu × Nat × Int):=[(54,30,24),(54,33,6),(54,168,30),(54,210,28)]
noncomputable abbrev ui:Obj:=BM ("PyFATException":Str) ("PyFATException":Str) 41 40 [.type "Exception"] [.type "Exception",.type "BaseException",.type "object"] true [] [] false none none
 (some (.ref 22)) none (some (.str ("PyFATException":Str) 196)) (some (.str ("PyFATException":Str) 204)) (some (.bool true)) "Exception.__new__"
abbrev BD (g:G) (a:yu) (vs:List yr) (kw r:List (Nat × yr)):Prop:=xq g.K 9 (Fb (fdO g.K a) ⟨vs,kw.map λe=>(g.nm e.1,e.2)⟩)=some (r.map λe=>(g.nm e.1,e.2))
structure um (K:B0) (g:G):Prop where
 f_init_check:xD g 65 ZT ZO b_init_check
 f_readonly_check:xD g 136 wv wg b_readonly_check
 f_Octets__init:xD g 80 QC Qa jO
 f_Octets_seek:xD g 108 QG QU b_Octets_seek
 f_Octets_read:xD g 115 QO QX b_Octets_read
 f_Octets_write:xD g 122 Qk QA b_Octets_write
 f_PyFat__init:xD g 155 QW QN QL
 f_PyFat_set_fp:xD g 162 Qq Qo b_PyFat_set_fp
 f_PyFat_seek:xD g 169 Zv ZS b_PyFat_seek
 f_PyFat_read_cluster_contents:xD g 176 xz xy b_PyFat_read_cluster_contents
 f_PyFat_write_data_to_address:xD g 246 xv xx b_PyFat_write_data_to_address
 f_PyFat_free_cluster_chain:xD g 253 xS xK b_PyFat_free_cluster_chain
 f_PyFat_write_data_to_cluster:xD g 261 xA xC b_PyFat_write_data_to_cluster
 f_PyFat_calc_num_clusters:xD g 276 xU xX b_PyFat_calc_num_clusters
 f_PyFat_allocate_bytes:xD g 284 jx jC b_PyFat_allocate_bytes
 f_PyFat_get_data_cluster_address:xD g 349 xb xf b_PyFat_get_data_cluster_address
 f_law_ask:xD g 391 Uy Uw b_law_ask
 f_law_table:xD g 398 Z8 Xj b_law_table
 f_law_same:xD g 403 XU XV b_law_same
 f_law:xD g 408 yi yd b_law
 gen:Qp g 356 zi qT
 b_init_check: ∀v1:yr,BD g 65 [v1] [] [(3,v1)]
 b_readonly_check: ∀v1:yr,BD g 136 [v1] [] [(3,v1)]
 jO: ∀v1 v2 v3:yr,BD g 80 [v1,v2,v3] [] [(7,v1),(4,v2),(8,v3)]
 b_Octets_seek: ∀v1 v2:yr,BD g 108 [v1,v2] [] [(7,v1),(6,v2)]
 b_Octets_read: ∀v1 v2:yr,BD g 115 [v1,v2] [] [(7,v1),(10,v2)]
 b_Octets_write: ∀v1 v2:yr,BD g 122 [v1,v2] [] [(7,v1),(4,v2)]
 b_PyFat_set_fp: ∀v1 v2:yr,BD g 162 [v1,v2] [] [(7,v1),(32,v2)]
 b_PyFat_seek: ∀v1 v2:yr,BD g 169 [v1,v2] [] [(7,v1),(36,v2)]
 b_PyFat_read_cluster_contents: ∀v1 v2:yr,BD g 176 [v1,v2] [] [(7,v1),(41,v2)]
 b_PyFat_write_data_to_address: ∀v1 v2 v3:yr,BD g 246 [v1,v2,v3] [] [(7,v1),(4,v2),(36,v3)]
 b_PyFat_free_cluster_chain: ∀v1 v2:yr,BD g 253 [v1,v2] [] [(7,v1),(41,v2)]
 b_PyFat_write_data_to_cluster: ∀v1 v2 v3 v4 v5:yr,BD g 261 [v1,v2,v3,v4,v5] [] [(7,v1),(4,v2),(41,v3),(215,v4),(212,v5)]
 b_PyFat_calc_num_clusters: ∀v1 v2:yr,BD g 276 [v1,v2] [] [(7,v1),(10,v2)]
 b_PyFat_allocate_bytes: ∀v1 v2 v3:yr,BD g 284 [v1,v2,v3] [] [(7,v1),(10,v2),(212,v3)]
 b_PyFat_get_data_cluster_address: ∀v1 v2:yr,BD g 349 [v1,v2] [] [(7,v1),(41,v2)]
 b_law_ask: ∀v1:yr,BD g 391 [v1] [] [(179,v1)]
 b_law_table: ∀v1 v2 v3 v4 v5:yr,BD g 398 [v1,v2,v3,v4,v5] [] [(162,v1),(253,v2),(254,v3),(255,v4),(256,v5)]
 b_law_same: ∀v1 v2 v3 v4 v5:yr,BD g 403 [v1,v2,v3,v4,v5] [] [(84,v1),(82,v2),(257,v3),(262,v4),(255,v5)]
 b_law: ∀v1:yr,BD g 408 [v1] [] [(116,v1)]
 b_gen: ∀v1 v2:yr,BD g 356 [v1,v2] [] [(7,v1),(247,v2)]
 b_alloc1: ∀v1 v2:yr,BD g 284 [v1,v2] [] [(7,v1),(10,v2),(212,.bool false)]
 b_allocE: ∀v1 v2 v3:yr,BD g 284 [v1,v2] [(212,v3)] [(7,v1),(10,v2),(212,v3)]
 b_new2: ∀v1 v2 v3:yr,BD g 155 [v1,v2,v3] [] [(7,v1),(25,v2),(28,v3),(27,.bool true)]
 b_oct1: ∀v1 v2:yr,BD g 80 [v1,v2] [] [(7,v1),(4,v2),(8,.bool true)]
 tabs:ql g own4 set4 mth4 mk4
 tabc:jb g uf ofc4
 fcv:vZ K 380 (g.nm 203) (.ref 144)=true
 exc_fnC:fnC g (fdO K 38) qH []=true
 exc_sup:yb g (fdO K 38) qH 41 41 25 37 136=true
 exc_set:u0 K 41 (g.nm 29)=true
 exc_bind: ∀v1 v2:yr,BD g 38 [v1,v2] [] [(7,v1),(138,v2),(29,.none)]
 exc_bindE: ∀v1 v2 v3:yr,BD g 38 [v1,v2] [(29,v3)] [(7,v1),(138,v2),(29,v3)]
 globs:JG K g.tab g.globs=true
structure U1 (K:B0) (w:DV):Prop where
 gg: ∀(base:W0) (dr:Drawn) (os:F9) (gs:Array Bc),um K (gK K w base dr os gs)
 d144:K.lookup 144=some (u6 [(12,395,145),(16,414,146),(32,433,147)])
 d145:K.lookup 145=some (UZ w [(qS "FREE_CLUSTER",396,0,397),(qS "MIN_DATA_CLUSTER",398,2,399),(qS "MAX_DATA_CLUSTER",400,4079,401),(qS "BAD_CLUSTER",402,4087,403),(qS "END_OF_CLUSTER_MIN",404,4088,405),(qS "END_OF_CLUSTER_MAX",406,4095,407)])
 d146:K.lookup 146=some (UZ w [(qS "FREE_CLUSTER",415,0,416),(qS "MIN_DATA_CLUSTER",417,2,418),(qS "MAX_DATA_CLUSTER",419,65519,420),(qS "BAD_CLUSTER",421,65527,422),(qS "END_OF_CLUSTER_MIN",423,65528,424),(qS "END_OF_CLUSTER_MAX",425,65535,426)])
 d147:K.lookup 147=some (UZ w [(qS "FREE_CLUSTER",434,0,435),(qS "MIN_DATA_CLUSTER",436,2,437),(qS "MAX_DATA_CLUSTER",438,268435439,439),(qS "BAD_CLUSTER",440,268435447,441),(qS "END_OF_CLUSTER_MIN",442,268435448,443),(qS "END_OF_CLUSTER_MAX",444,268435455,445)])
 keep41:keepIn K (.ref 41)=true
 excOk41:YB K 41=true
 exc41_at:K.lookup 41=some ui
 exc_fd:K.lookup 38=some ⟨.type "function",none,.func (fdO K 38),#[]⟩
 exc_code:codeIn K (fdO K 38).code (fdO K 38).qualname=true
 exc_chk:xP ⟨tab,(fdO K 38).scope.names,qH⟩ zv=true
 exc_body:(fdO K 38).body= .stmts (supS ⟨tab,(fdO K 38).scope.names,qH⟩ 1 8008013 8008015 8008024 8025028 8008029 8008029::xm ⟨tab,(fdO K 38).scope.names,qH⟩ zv)
 exc_loc:Nm.isLoc ⟨tab,(fdO K 38).scope.names,qH⟩ 1=true
 exc_make4:Mine.Internal.makeX K 41 38=true
 exm41:exmOne K (.ref 41) (.ref 41)=some true
 exmIdx:exmOne K (.type "IndexError") (.type "IndexError")=some true
 noStop:subIn K (.ref 41) (.type "StopIteration")=some false
 law_at:nsIn K W7 (qS "law")=some (some (.ref 408))
 big:(K.lookup 408).isSome=true
 notabs:noTabs K=true
 code:(fdO K 408).code= .ref 407
 tabin:tabIn K (qS "law")=some (407,405)
structure GP where
 w:DV
 K:B0
 kf:U1 K w
 base:W0
 dr:Drawn
 os:F9
 gs:Array Bc
@[reducible] noncomputable def g4 (p:GP):G:=gK p.K p.w p.base p.dr p.os p.gs
section
variable {p:GP}
theorem GF:um p.K (g4 p):=p.kf.gg _ _ _ _
theorem qg:ql (g4 p) own4 set4 mth4 mk4:=GF.tabs
theorem xM:jb (g4 p) uf ofc4:=GF.tabc
end
noncomputable abbrev QM (d:List UInt8) (p:Int):List (Nat × V):=[(4,.bytes d),(5,.bool true),(6,.int p)]
structure DK where
 a:yu
 o:yu
 c:yu
 sh:Int
 fds:Int
 kd:Int
noncomputable abbrev DK.pf (D:DK) (fp:V) (ff:Int) (tb:yu) (ro:Bool):List (Nat × V):=[(12,fp),(13,.int D.sh),(14,.int 0),(15,.ref D.c),(16,.none),(17,.int 0),(18,.int 0),(19,.int 4),(20,.int D.fds),(21,.int ff),(23,.int D.kd),(24,.ref tb),(0,.bool true),(25,.sym 184),(26,.bool ro),(27,.bool true)]
noncomputable abbrev DK.ha (D:DK) (ff:Int) (tb:yu) (ro:Bool):yu × O:=(D.a,.inst 380 (D.pf (.ref D.o) ff tb ro) none)
noncomputable abbrev DK.ho (D:DK) (d:List UInt8) (p:Int):yu × O:=(D.o,.inst 125 (QM d p) none)
noncomputable abbrev DK.hc (D:DK):yu × O:=(D.c,.sdict [(51,.int 2),(50,.int 2)])
section
variable {p:GP} {mg mb:Str->Option yr} (gk:GOk (g4 p) mg mb)
include gk
theorem vO (hk:k<900):
  qs (g4 p) k hd (.ref 108) [.ref a,.int q] [] [(a,.inst 125 (QM d x) none)] (λy H'=>y= .none/\H'=[(a,.inst 125 (QM d q) none)]) (λoo oo=>False):=by
 refine Ip gk GF.f_Octets_seek hk (Im (i:=7) (j:=6) GF.b_Octets_seek rfl) rfl rfl [some (.ref a),some (.int q)] rfl λf ok hh=>?_
 refine I7 qg gk ok (uq0) rfl rfl ?_
 exact zp (.refl _) (qa rfl rfl)
theorem v0 (hk:k<900) (hz:d.length<=16777216) (hp:0<=x) (hq:0<=q):
  qs (g4 p) k hd (.ref 115) [.ref a,.int q] [] [(a,.inst 125 (QM d x) none)]
   (λy H'=>y= .bytes (cut d x (x+q))/\H'=[(a,.inst 125 (QM d (x+(cut d x (x+q)).length)) none)]) (λoo oo=>False):=by
 refine Ip gk GF.f_Octets_read hk (Im (i:=7) (j:=10) GF.b_Octets_read rfl) rfl rfl [some (.ref a),some (.int q),none] rfl λf ok hh=>?_
 refine Ir qg gk ok (pm 0 rfl) rfl (by rfl) (by rfl) ?_
 refine Ir qg gk ok (pm 0 rfl) rfl (by rfl) (by rfl) ?_
 refine Ir qg gk ok (pm 0 rfl) rfl (by rfl) (by rfl) ?_
 refine Iz ?_
 refine qv.cutB hp (QH [.zl UA ZA,.zl UA ZB] (.zl UA (.a ZA ZB)) rfl hp hq) hz ?_
 refine Ir qg gk ok (pm 0 rfl) rfl (by rfl) (by rfl) ?_
 refine IW (yX (uy _ _ _) hz) ?_
 refine zG.add ?_
 refine I7 qg gk ok (uq0) rfl rfl ?_
 exact xu (.refl _) (qa rfl rfl)
theorem UE (hk:k<900):
  qs (g4 p) k hd (.ref 80) [.ref a,.bytes d] [] [(a,.inst 125 [] none)] (λy H'=>y= .none/\H'=[(a,.inst 125 (QM d 0) none)]) (λoo oo=>False):=by
 refine Ip gk GF.f_Octets__init hk (ps:=[(7,.ref a),(4,.bytes d),(8,.bool true)]) (λvs kw hv hk=>?_) rfl rfl [some (.ref a),some (.bytes d),some (.bool true)] rfl λf ok hh=>?_
 ·(refine qk hv λv1 oo C h1 g=>?_;refine qk g λv2 oo u h2 e=>?_;clear hv;subst C;subst u)
  obtain rfl:=e;obtain rfl:=hk
  exact qj _ (GF.b_oct1 v1 v2) (.cons (qy (yL.mp rfl) rfl h1) (.cons (qy (yL.mp rfl) rfl h2) (.cons (qy (yL.mp rfl) rfl (.bool)) .nil)))
 refine I7 qg gk ok (uq0) rfl rfl ?_
 refine I7 qg gk ok (uq0) rfl rfl ?_
 refine I7 qg gk ok (uq0) rfl rfl ?_
 exact zp (.refl _) (qa rfl rfl)
theorem Xq (hk:k<900) (hp:0<=x) (hq:x<=d.length) (hz:d.length+c.length<=1000000):
  qs (g4 p) k hd (.ref 122) [.ref a,.bytes c] [] [(a,.inst 125 (QM d x) none)] (λy H'=>y= .none/\H'=[(a,.inst 125 (QM (d.take x.toNat++c++d.drop (x+c.length).toNat) (x+c.length)) none)]) (λoo oo=>False):=by
 refine Ip gk GF.f_Octets_write hk (Im (i:=7) (j:=4) GF.b_Octets_write rfl) rfl rfl [some (.ref a),some (.bytes c),none] rfl λf ok hh=>?_
 refine Ir qg gk ok (pm 0 rfl) rfl (by rfl) (by rfl) ?_
 refine Ir qg gk ok (pm 0 rfl) rfl (by rfl) (by rfl) ?_
 refine qv.takeY hp (qq [.nl (.a VA VB) KS] (.nl VA KT) rfl hz) ?_
 refine Ir qg gk ok (pm 0 rfl) rfl (by rfl) (by rfl) ?_
 refine Ir qg gk ok (pm 0 rfl) rfl (by rfl) (by rfl) ?_
 refine IW (qq [.nl (.a VA VB) KS] (.nl VA KT) rfl hz) ?_
 refine IB ?_
 refine qo.repB (by simp) (by simp) (Ur [.zl UA ZA,.nl (.a VA VB) KS] (.zl (.n (.k 1048576)) (.s ZA (.c VA))) rfl hp hz) (Xm [.zl ZA (.c VA)] (.zl (.s ZA (.c VA)) (.k 1048576)) rfl hq) ?_
 rw [show (x - (d.length:Int)).toNat=0 by exact (uc [.ne VA KA] (.ne VA KA) [1,0] [1,1] rfl (Int.toNat_of_nonpos (Xm [.zl ZA (.c VA)] (.zl (.s ZA (.c VA)) UA) rfl hq))),List.replicate_zero,Bt]
 refine qo.addB (by rw [Wx,List.length_nil];exact (LU41 [.zl ZA (.c VA),.nl (.a VA VB) KS,.ne VC VD,.ze (.c VD) ZA] (.nl (.a VC KA) KT) rfl hq hz (Wz (Ur [.zl ZA (.c VA),.ze (.c VB) ZA] (.nl VB VA) rfl hq (yz hp))) (yz hp))) ?_
 rw [Wq]
 refine qo.addB (by rw [Wx];exact (LU41 [.zl ZA (.c VA),.nl (.a VA VB) KS,.ne VC VD,.ze (.c VD) ZA] (.nl (.a VC VB) KT) rfl hq hz (Wz (Ur [.zl ZA (.c VA),.ze (.c VB) ZA] (.nl VB VA) rfl hq (yz hp))) (yz hp))) ?_
 refine Ir qg gk ok (pm 0 rfl) rfl (by rfl) (by rfl) ?_
 refine Ir qg gk ok (pm 0 rfl) rfl (by rfl) (by rfl) ?_
 refine IW (qq [.nl (.a VA VB) KS] (.nl VB KT) rfl hz) ?_
 refine Iz ?_
 refine qv.dropY (Xm [.zl UA ZA] (.zl UA (.a ZA (.c VA))) rfl hp) (qq [.nl (.a VA VB) KS] (.nl VA KT) rfl hz) ?_
 refine qo.addB (by rw [yS,Wx,Ws];exact (LB [_,_,_,_,_] [_] [.zl ZA (.c VA),.nl (.a VA VB) KS,.ne VC VD,.nl VE VA,.ze (.c VD) ZA] (.nl (.a (.a VC VB) VE) KT) [1,1,2,1,1,1] rfl hq hz (Wz (Ur [.zl ZA (.c VA),.ze (.c VB) ZA] (.nl VB VA) rfl hq (yz hp))) (Nat.sub_le _ _) (yz hp))) ?_
 refine I7 qg gk ok (uq0) rfl rfl ?_
 refine Ir qg gk ok (pm 0 rfl) rfl (by rfl) (by rfl) ?_
 refine IW (qq [.nl (.a VA VB) KS] (.nl VB KT) rfl hz) ?_
 refine zG.add ?_
 refine I7 qg gk ok (uq0) rfl rfl ?_
 exact zp (.refl _) (qa rfl rfl)
theorem vp (hk:k<900):
  qs (g4 p) k hd (.ref 155) [.ref a,.sym 184,.int off] [] [(a,.inst 380 [] none)] (λy H'=>y= .none/\∃b,H'=[(a,.inst 380 [(12,.none),(13,.int off),(14,.int 0),(15,.none),(16,.none),(17,.int 0),(18,.int 0),(19,.int 0),(20,.int 0),(21,.int 0),(23,.int 0),(24,.ref b),(0,.bool false),(25,.sym 184),(26,.bool true),(27,.bool true)] none)]) (λoo oo=>False):=by
 refine Ip gk GF.f_PyFat__init hk (ps:=[(7,.ref a),(25,.sym 184),(28,.int off),(27,.bool true)]) (λvs kw hv hk=>?_) rfl rfl [some (.ref a),some (.sym 184),some (.int off),some (.bool true)] rfl λf ok hh=>?_
 ·(refine qk hv λv1 oo C h1 z0=>?_;refine qk z0 λv2 oo u h2 z1=>?_;refine qk z1 λv3 oo g h3 e=>?_;clear hv;subst C;subst u;subst g)
  obtain rfl:=e;obtain rfl:=hk
  exact qj _ (GF.b_new2 v1 v2 v3) (.cons (qy (yL.mp rfl) rfl h1) (.cons (qy (yL.mp rfl) rfl h2) (.cons (qy (yL.mp rfl) rfl h3) (.cons (qy (yL.mp rfl) rfl (.bool)) .nil))))
 iterate 10 refine I7 qg gk ok (uq0) rfl rfl ?_
 refine jb.c xM gk ok 0 (pm 0 rfl) rfl rfl ?_
 refine I7 qg gk ok (uq0) rfl rfl ?_
 intro b
 iterate 5 refine I7 qg gk ok (uq1 uq0) rfl rfl ?_
 exact zp (.drop (.refl _)) (qa rfl (qx b rfl))
end
noncomputable abbrev DK.at (D:DK) (c:Int):Int:=((c - 2)*2+D.fds)*2
section
variable {p:GP} {mg mb:Str->Option yr} (gk:GOk (g4 p) mg mb)
theorem exc41_at:(g4 p).K.lookup 41=some ui:=p.kf.exc41_at
theorem exc_fd:(g4 p).K.lookup 38=some ⟨.type "function",none,.func (fdO (g4 p).K 38),#[]⟩:=p.kf.exc_fd
theorem exc_sup:Q4 (g4 p) (fdO (g4 p).K 38) qH 41 41 25 37 136:=Q4.of (GF.exc_sup)
theorem exc_set:u0 (g4 p).K 41 ((g4 p).nm 29)=true:=GF.exc_set
theorem exc_make4:Mine.Internal.makeX (g4 p).K 41 38=true:=p.kf.exc_make4
theorem keep41:keepIn (g4 p).K (.ref 41)=true:=p.kf.keep41
theorem excOk41:YB (g4 p).K 41=true:=p.kf.excOk41
include gk
theorem Qb (hk:k<900) (hb: ∀vs kw,VRs (g4 p) [.ref x,m] vs->KWR (g4 p) kvs kw->∃g,xq (g4 p).K 9 (Fb (fdO (g4 p).K 38) ⟨vs,kw⟩)=some g/\KWR (g4 p) [(7,.ref x),(138,m),(29,e)] g):
  qs (g4 p) k hd (.ref 38) [.ref x,m] kvs [(x,.exc0 41 tu)] (λy H'=>y= .none/\∃t,H'=[(x,.inst 41 [(29,e)] (some t))]) (λoo oo=>False):=by
 refine qs.ofSup gk F.excBase_Exception exc41_at exc_fd p.kf.exc_code (GF.exc_fnC) p.kf.exc_chk (lss:=zv) (p0:=8008013) (p1:=8008015) (ap:=8008024) (pj:=8025028) (pc:=8008029) (pq:=8008029) (j:=1) p.kf.exc_body exc_sup p.kf.exc_loc (λa env=>rfl) hk hb rfl rfl [some (.ref x),some m,some e] rfl rfl rfl λf b t ok hh=>?_
 refine zr.exc0 gk ok (.tail .head) (yL.mp rfl) exc_set ?_
 exact zp (.drop (.refl _)) (qa rfl (qx t rfl))
theorem uQ (hk:k<800):
  qs (g4 p) k hd (.ref 41) [m] [] [] (λy H'=>∃e t,y= .ref e/\H'=[(e,.inst 41 [(29,.none)] (some t))]) (λoo oo=>False):=by
 refine qs.makeX gk (N:=40) (fI:=38) F.excBase_Exception exc41_at (by show 1<=1000;decide) exc_make4 λa t=>?_
 refine (Qb gk (by exact (lk1 hk rfl)) (e:= .none) λvs kw hv hk=>?_).mono (λx H h=>?_) λoo oo h=>h
 ·(refine qk hv λv1 oo z2 h1 z4=>?_;refine qk z4 λv2 oo z3 h2 e=>?_;clear hv;subst z2;subst z3)
  obtain rfl:=e;obtain rfl:=hk
  exact qj _ (GF.exc_bind v1 v2) (.cons (qy (yL.mp rfl) rfl h1) (.cons (qy (yL.mp rfl) rfl h2) (.cons (qy (yL.mp rfl) rfl (.none)) .nil)))
 ·(refine qc h λh1 z5=>?_;refine qA z5 λt' h2=>?_)
  exact qa h1 (qU a t' rfl h2)
theorem vJ (hk:k<800):
  qs (g4 p) k hd (.ref 41) [m] [(29,y)] [] (λz H'=>∃e t,z= .ref e/\H'=[(e,.inst 41 [(29,y)] (some t))]) (λoo oo=>False):=by
 refine qs.makeX gk (N:=40) (fI:=38) F.excBase_Exception exc41_at (by show 1<=1000;decide) exc_make4 λa t=>?_
 refine (Qb gk (by exact (lk1 hk rfl)) (e:=y) λvs kw hv hk=>?_).mono (λx H h=>?_) λoo oo h=>h
 ·(refine qk hv λv1 oo z6 h1 z8=>?_;refine qk z8 λv2 oo z7 h2 e=>?_;clear hv;subst z6;subst z7)
  (refine qk hk λz9 oo C u e'=>?_;clear hk;obtain ⟨kn,v3⟩:=z9;subst C;obtain ⟨_,h3,h4⟩:=u)
  obtain rfl:=e;obtain rfl:=e';cases h3
  exact qj _ (GF.exc_bindE v1 v2 v3) (.cons (qy (yL.mp rfl) rfl h1) (.cons (qy (yL.mp rfl) rfl h2) (.cons (qy (yL.mp rfl) rfl h4) .nil)))
 ·(refine qc h λh1 g=>?_;refine qA g λt' h2=>?_)
  exact qa h1 (qU a t' rfl h2)
variable {f:Fx} {n:Nat} {E:QE} {σ:St}
theorem v6 (ok:FOk (g4 p) f) (hh:f.hd=none) (hn:n<800) (h: ∀a,E ⟨a,.ref 41⟩ σ):qb (g4 p) f n (.fix (.ref 41)) [m] [] (λx σ=>X4 (g4 p) f n x E σ) E σ:=
 qb.cls gk ok keep41 (uQ gk hn) .nil (λx H' zf=>zf.elim λe zf=>zf.elim λt zf=>zf.elim λhx hH=>by subst hx hH;exact X4.free gk ok hh excOk41 (.refl _) (h e)) λoo oo h=>h.elim
theorem UX (ok:FOk (g4 p) f) (hh:f.hd=none) (hn:n<800) (h: ∀a,E ⟨a,.ref 41⟩ σ):qb (g4 p) f n (.fix (.ref 41)) [m] [(29,y)] (λx σ=>X4 (g4 p) f n x E σ) E σ:=
 qb.cls gk ok keep41 (vJ gk hn) .nil (λx H' zf=>zf.elim λe zf=>zf.elim λt zf=>zf.elim λhx hH=>by subst hx hH;exact X4.free gk ok hh excOk41 (.refl _) (h e)) λoo oo h=>h.elim
variable {D:DK} {ff:Int} {tb:yu} {ro:Bool}
theorem xt (hk:k<800):qs (g4 p) k hd (.ref 65) [.ref D.a] [] [D.ha ff tb ro] (λy H'=>y= .none/\H'=[D.ha ff tb ro]) (λoo oo=>False):=by
 refine Ip gk GF.f_init_check (lk0 hk rfl) (I0 (i:=3) GF.b_init_check rfl) rfl rfl [some (.ref D.a)] rfl λf ok hh=>?_
 refine Ir qg gk (by assumption) (pm 0 rfl) rfl rfl rfl ?_
 refine H9 ?_
 refine qX ?_
 exact zp (.refl _) (qa rfl rfl)
theorem kU (hk:k<800):qs (g4 p) k hd (.ref 136) [.ref D.a] [] [D.ha ff tb false] (λy H'=>y= .none/\H'=[D.ha ff tb false]) (λoo oo=>False):=by
 refine Ip gk GF.f_readonly_check (lk0 hk rfl) (I0 (i:=3) GF.b_readonly_check rfl) rfl rfl [some (.ref D.a)] rfl λf ok hh=>?_
 refine Ir qg gk (by assumption) (pm 0 rfl) rfl rfl rfl ?_
 refine H9 ?_
 refine qX ?_
 exact zp (.refl _) (qa rfl rfl)
theorem Zn (hk:k<700):qs (g4 p) k none (.ref 136) [.ref D.a] [] [D.ha ff tb true] (λy H'=>False) (λx H'=>x.cls= .ref 41/\H'=[D.ha ff tb true]):=by
 refine Ip gk GF.f_readonly_check (lk0 hk rfl) (I0 (i:=3) GF.b_readonly_check rfl) rfl rfl [some (.ref D.a)] rfl λf ok hh=>?_
 refine Ir qg gk (by assumption) (pm 0 rfl) rfl rfl rfl ?_
 refine H9 ?_
 refine ke ?_
 refine jb.o xM gk ok 30 rfl ?_
 exact UX gk ok hh (by exact (lk1 hk rfl)) λa=>(qK _ (.refl _) rfl rfl)
theorem Qw (hk:k<800):
  qs (g4 p) k hd (.ref 169) [.ref D.a,.int q] [] [D.ha ff tb ro,D.ho d x] (λy H'=>y= .none/\H'=[D.ho d (q+D.sh),D.ha ff tb ro]) (λoo oo=>False):=by
 refine Ip gk GF.f_PyFat_seek (lk0 hk rfl) (Im (i:=7) (j:=36) GF.b_PyFat_seek rfl) rfl rfl [some (.ref D.a),some (.int q)] rfl λf ok hh=>?_
 refine Ir qg gk (by assumption) (pm 0 rfl) rfl rfl rfl ?_
 refine qm.is rfl ?_
 refine H9 ?_
 refine qX ?_
 refine Ir qg gk (by assumption) (pm 0 rfl) rfl rfl rfl ?_
 refine IZ qg gk ok (C:=125) (pm 1 rfl) (fa:=108) rfl rfl ?_
 refine Ir qg gk (by assumption) (pm 0 rfl) rfl rfl rfl ?_
 refine Iz ?_
 refine Iu gk ok GF.f_Octets_seek (vO gk (by exact (lk1 hk rfl)) (x:=x) (d:=d)) ((tk1 .nil)) ?_
 exact zp (.refl _) (qa rfl rfl)
theorem ZP (hk:k<800):
  qs (g4 p) k hd (.ref 349) [.ref D.a,.int c] [] [D.ha ff tb ro,D.hc] (λy H'=>y= .int (D.at c)/\H'=[D.ha ff tb ro,D.hc]) (λoo oo=>False):=by
 refine Ip gk GF.f_PyFat_get_data_cluster_address (lk0 hk rfl) (Im (i:=7) (j:=41) GF.b_PyFat_get_data_cluster_address rfl) rfl rfl [some (.ref D.a),some (.int c),none] rfl λf ok hh=>?_
 refine IB ?_
 refine Ir qg gk (by assumption) (pm 0 rfl) rfl rfl rfl ?_
 refine qG.sdict gk (pm 1 rfl) (yL.mp rfl) (by first|assumption|rfl) ?_
 refine IP (.inr (.inl (qa (by decide) (by decide)))) ?_
 refine Ir qg gk (by assumption) (pm 0 rfl) rfl rfl rfl ?_
 refine Iz ?_
 refine Ir qg gk (by assumption) (pm 0 rfl) rfl rfl rfl ?_
 refine qG.sdict gk (pm 1 rfl) (yL.mp rfl) (by first|assumption|rfl) ?_
 refine IP (.inr (.inl (qa (by decide) (by decide)))) ?_
 exact xu (.refl _) (qa rfl rfl)
theorem ua (hk:k<800):
  qs (g4 p) k hd (.ref 276) [.ref D.a,.int m] [] [D.ha ff tb ro] (λy H'=>y= .int (-(-m / 4))/\H'=[D.ha ff tb ro]) (λoo oo=>False):=by
 refine Ip gk GF.f_PyFat_calc_num_clusters (lk0 hk rfl) (Im (i:=7) (j:=10) GF.b_PyFat_calc_num_clusters rfl) rfl rfl [some (.ref D.a),some (.int m),none] rfl λf ok hh=>?_
 refine IX ?_
 refine Ir qg gk (by assumption) (pm 0 rfl) rfl rfl rfl ?_
 refine IQ (by decide) (.inl (by decide)) ?_
 refine IX ?_
 exact xu (.refl _) (qa rfl rfl)
theorem uT (hk:k<700) (hz:d.length<=16777216) (h0:0<=D.at c+D.sh):
  qs (g4 p) k hd (.ref 176) [.ref D.a,.int c] [] [D.ha ff tb ro,D.ho d x,D.hc] (λy H'=>y= .bytes (cut d (D.at c+D.sh) (D.at c+D.sh+4))/\∃z,H'=[D.ho d z,D.ha ff tb ro,D.hc]) (λoo oo=>False):=by
 refine Ip gk GF.f_PyFat_read_cluster_contents (lk0 hk rfl) (Im (i:=7) (j:=41) GF.b_PyFat_read_cluster_contents rfl) rfl rfl [some (.ref D.a),some (.int c),none,none] rfl λf ok hh=>?_
 refine Iu gk ok GF.f_init_check (xt gk (by exact (lk1 hk rfl))) ((tk0 .nil)) ?_
 refine Ir qg gk (by assumption) (pm 0 rfl) rfl rfl rfl ?_
 refine IZ qg gk ok (C:=380) (pm 0 rfl) (fa:=349) rfl rfl ?_
 refine Iu gk ok GF.f_PyFat_get_data_cluster_address (ZP gk (by exact (lk1 hk rfl)) (c:=c)) ((tk0 (tk1 .nil))) ?_
 refine IZ qg gk ok (C:=380) (pm 0 rfl) (fa:=169) rfl rfl ?_
 refine Iu gk ok GF.f_PyFat_seek (Qw gk (by exact (lk1 hk rfl)) (d:=d) (x:=x)) ((tk0 (tk1 .nil))) ?_
 refine Ir qg gk (by assumption) (pm 1 rfl) rfl rfl rfl ?_
 refine IZ qg gk ok (C:=125) (pm 0 rfl) (fa:=115) rfl rfl ?_
 refine Iu gk ok GF.f_Octets_read (v0 gk (by exact (lk1 hk rfl)) hz h0 (by decide)) ((tk0 .nil)) ?_
 exact xu (.refl _) (qa rfl (qx _ rfl))
theorem uB (hk:k<700) (h0:0<=q+D.sh) (h1:q+D.sh<=d.length) (hz:d.length+c.length<=1000000):
  qs (g4 p) k hd (.ref 246) [.ref D.a,.bytes c,.int q] [] [D.ha ff tb false,D.ho d x] (λy H'=>y= .none/\H'=[D.ho (d.take (q+D.sh).toNat++c++d.drop (q+D.sh+c.length).toNat) (q+D.sh+c.length),D.ha ff tb false]) (λoo oo=>False):=by
 refine Ip gk GF.f_PyFat_write_data_to_address (lk0 hk rfl) (IN (i:=7) (j:=4) (k:=36) GF.b_PyFat_write_data_to_address rfl) rfl rfl [some (.ref D.a),some (.bytes c),some (.int q)] rfl λf ok hh=>?_
 refine Iu gk ok GF.f_init_check (xt gk (by exact (lk1 hk rfl))) ((tk0 .nil)) ?_
 refine Iu gk ok GF.f_readonly_check (kU gk (by exact (lk1 hk rfl))) ((tk0 .nil)) ?_
 refine IZ qg gk ok (C:=380) (pm 0 rfl) (fa:=169) rfl rfl ?_
 refine Iu gk ok GF.f_PyFat_seek (Qw gk (by exact (lk1 hk rfl)) (d:=d) (x:=x)) ((tk0 (tk0 .nil))) ?_
 refine Ir qg gk (by assumption) (pm 1 rfl) rfl rfl rfl ?_
 refine IZ qg gk ok (C:=125) (pm 0 rfl) (fa:=122) rfl rfl ?_
 refine Iu gk ok GF.f_Octets_write (Xq gk (by exact (lk1 hk rfl)) h0 h1 hz) ((tk0 .nil)) ?_
 exact zp (.refl _) (qa rfl rfl)
end
noncomputable def kTp (kd:Int):Int:=if kd=12 then 4095 else if kd=16 then 65535 else 268435455
noncomputable def kdA (kd:Int):yu:=if kd=12 then 145 else if kd=16 then 146 else 147
def j7 (kd:Int):Prop:=kd=12\/kd=16\/kd=32
theorem ky {kd:Int}:4095<=kTp kd:=by unfold kTp;split;decide;split<;>decide
theorem Jo {kd:Int}:kTp kd<=268435455:=by unfold kTp;split;decide;split<;>decide
theorem Qd {kd:Int} (h:kd=12):kTp kd=4095:=by unfold kTp;rw [if_pos h]
set_option tactic.hygienic true in
theorem Rem.back (h:Rem x l l'):qp l (x::l') []:=by
 induction h with
 |head=>exact qp.cons .head (by
   rename_i l
   induction l with
   |nil=>exact .nil
   |cons a r ih=>exact .cons .head ih)
 |tail _ ih=>exact .cons (.tail .head) ih
theorem Rem.of_mem: ∀{l:List α},x∈l->∃l',Rem x l l'
 |a::l,h=>by
  rcases yy.mp h with rfl|h
  ·exact qx _ (.head)
  ·refine qA (Rem.of_mem h) λl' h=>?_
   exact qx _ (.tail h)
theorem x9 [Decidable p] (h:p) (a:A):(decide p=true->A)/\(decide p=false->B):=(qa (λoo=>a) (λe=>absurd h (of_decide_eq_false e)))
theorem jJ [Decidable p] (h:¬p) (b:B):(decide p=true->A)/\(decide p=false->B):=(qa (λe=>absurd (of_decide_eq_true e) h) (λoo=>b))
theorem XT [Decidable p] (h:p) (b:B):(decide p=false->A)/\(decide p= !false->B):=(qa (λe=>absurd h (of_decide_eq_false e)) (λoo=>b))
theorem ZU [Decidable p] (h:¬p) (a:A):(decide p=false->A)/\(decide p= !false->B):=(qa (λoo=>a) (λe=>absurd (of_decide_eq_true e) h))
theorem or_y [Decidable p] (h:p) (a:A):(decide p=true->A)/\(decide p= !true->B):=(qa (λoo=>a) (λe=>absurd h (of_decide_eq_false e)))
theorem or_n [Decidable p] (h:¬p) (b:B):(decide p=true->A)/\(decide p= !true->B):=(qa (λe=>absurd (of_decide_eq_true e) h) (λoo=>b))
section
variable {p:GP} {mg mb:Str->Option yr} {f:Fx} {n:Nat} {Q:QV} {E:QE} {σ:St} (gk:GOk (g4 p) mg mb)
include gk
theorem fcv (ok:FOk (g4 p) f) (hm:(a,.inst 380 at' none)∈σ.H) (hl:at'.lookup 203=none) (h:Q (.ref 144) σ):zT (g4 p) f n (.ref a) 203 Q E σ:=
 zT.cls gk ok hm (yL.mp rfl) hl (GF.fcv) .ref h
theorem jI (ok:FOk (g4 p) f) {kd:Int} (hk:j7 kd) (h:Q (.ref (kdA kd)) σ):qG (g4 p) f n (.ref 144) (.int kd) Q E σ:=by
 rcases hk with rfl|rfl|rfl<;>exact qG.baseI gk ok p.kf.d144 (by decide) rfl h
theorem jK (ok:FOk (g4 p) f) {kd:Int} (hk:j7 kd) (v:Int) (hi:(i=204/\v=0)\/(i=225/\v=2)\/(i=226/\v=kTp kd - 16)\/(i=228/\v=kTp kd - 8)\/(i=241/\v=kTp kd - 7)\/(i=233/\v=kTp kd)) (h:Q (.int v) σ):qG (g4 p) f n (.ref (kdA kd)) (.sym i) Q E σ:=by
 rcases hk with rfl|rfl|rfl
 ·rcases hi with ⟨rfl,rfl⟩|⟨rfl,rfl⟩|⟨rfl,rfl⟩|⟨rfl,rfl⟩|⟨rfl,rfl⟩|⟨rfl,rfl⟩<;>exact qG.baseS gk ok p.kf.d145 (by decide+kernel) rfl h
 ·rcases hi with ⟨rfl,rfl⟩|⟨rfl,rfl⟩|⟨rfl,rfl⟩|⟨rfl,rfl⟩|⟨rfl,rfl⟩|⟨rfl,rfl⟩<;>exact qG.baseS gk ok p.kf.d146 (by decide+kernel) rfl h
 ·rcases hi with ⟨rfl,rfl⟩|⟨rfl,rfl⟩|⟨rfl,rfl⟩|⟨rfl,rfl⟩|⟨rfl,rfl⟩|⟨rfl,rfl⟩<;>exact qG.baseS gk ok p.kf.d147 (by decide+kernel) rfl h
end
def Ch (tbl:List Int) (m:Int):List Nat->Prop
 |[]=>False
 |[c]=>tbl[c]? =some m
 |c::d::r=>tbl[c]? =some (d:Int)/\Ch tbl m (d::r)
theorem Ch.at:Ch tbl m cs->∀{k c:Nat},cs[k]? =some c->(∃d,cs[k+1]? =some d/\tbl[c]? =some (d:Int))\/(k+1=cs.length/\tbl[c]? =some m):=by
 induction cs with
 |nil=>intro h;exact h.elim
 |cons a r ih=>
  intro h k c e
  cases r with
  |nil=>
   cases k with
   |zero=>cases e;exact .inr (qa rfl h)
   |succ k=>cases e
  |cons b r=>
   cases k with
   |zero=>cases e;exact .inl (qj b rfl h.1)
   |succ k=>
    refine Or.elim (ih h.2 (k:=k) e) (λh3=>?_) λh3=>?_
    ·exact .inl h3
    ·exact .inr ⟨by rw [WE,<- h3.1],h3.2⟩
def k9 (kd m:Int):Prop:=(kd=12/\m=4080)\/(kTp kd - 7<=m/\m<=kTp kd)
def XC (D:DK) (tb:yu) (tbl:List Int) (H:List (yu × O)):Prop:=∃ff ro,D.ha ff tb ro∈H/\(tb,O.list (tbl.map V.int))∈H
noncomputable def UT (D:DK) (st i:Int):List (Option V):=[some (.ref D.a),some (.int st),some (.ref (kdA D.kd)),some (.int 2),some (.int (kTp D.kd - 16)),some (.int (kTp D.kd - 7)),some (.int (kTp D.kd)),some (.int i)]
theorem qP {tbl:List Int} (h:tbl[c]? =some v):(tbl.map V.int)[((c:Nat):Int).toNat]? =some (.int v):=by
 rw [yW,yO,h];rfl
theorem qw {α:Type} {l:List α} {v:α} (h:l[c]? =some v):c<l.length:=(Wb.mp h).1
section
variable {p:GP} {mg mb:Str->Option yr} (gk:GOk (g4 p) mg mb) {D:DK} {tb:yu} {tbl:List Int}
include gk
theorem JK (hn:n<800) (hk:j7 D.kd) {st:Int} (ok:FOk (g4 p) f) (hN:XC D tb tbl H)
  (h:Q .next ⟨UT D st st,H⟩):wSs (g4 p) f n qT.pre Q E ⟨[some (.ref D.a),some (.int st),none,none,none,none,none,none],H⟩:=by
 refine qB hN λff ro h1 h2=>?_
 refine qA (Rem.of_mem h1) λH₂ hr=>?_
 refine Iu gk ok GF.f_init_check (xt gk (by exact hn)) (.cons hr .nil) ?_
 refine zT.wk hr.back ?_
 refine fcv gk ok h1 rfl ?_
 refine Ir qg gk ok h1 rfl (by rfl) (by rfl) ?_
 refine jI gk ok hk ?_
 refine jK gk ok hk 2 (.inr (.inl (qa rfl rfl))) ?_
 refine jK gk ok hk _ (.inr (.inr (.inl (qa rfl rfl)))) ?_
 refine jK gk ok hk _ (.inr (.inr (.inr (.inr (.inl (qa rfl rfl)))))) ?_
 refine jK gk ok hk _ (.inr (.inr (.inr (.inr (.inr (qa rfl rfl)))))) ?_
 exact h
theorem Qf (hn:n<800) (hk:j7 D.kd) (hc:Ch tbl m cs) (hm:k9 D.kd m) (hz:tbl.length<=100) (h2: ∀c∈cs,2<=c) {st:Nat} (hst:cs[0]? =some st):
  Zc (g4 p) n zi qT [(7,.ref D.a),(247,.int (st:Nat))] cs.length true (λoo=>False) (λk x=>∃c:Nat,cs[k]? =some c/\x= .int (c:Nat)) (XC D tb tbl) where
 stop:=λoo h=>h.elim
 run:=by
  refine ⟨λgs σ=>∃c:Nat,cs[gs.j]? =some c/\σ=⟨UT D (st:Nat) (c:Nat),gs.H⟩/\XC D tb tbl gs.H,λgs f σ ok hh hj hi=>?_,λgs f ok hh hj hN=>?_⟩
  ·(refine zk hi λc hcj z13 z14=>?_;refine qB z14 λff ro h1 h3=>?_;clear hi;subst z13)
   have gk':GOk (g4 {p with gs:=gs.gens}) mg mb:=gk.gen
   change FOk (g4 {p with gs:=gs.gens}) f at ok
   have hin:c∈cs:=yC hcj
   have h2c:=h2 c hin
   have hge:=ky (kd:=D.kd)
   have hle:=Jo (kd:=D.kd)
   have hcl:c<tbl.length:=by
    rcases hc.at hcj with ⟨d,_,e⟩|⟨_,e⟩<;>exact qw e
   change (Ij .LtE _ _ _).wt (g4 {p with gs:=gs.gens}) f n _ _ _
   refine Ir qg gk' ok h1 rfl (by rfl) (by rfl) ?_
   refine IH h3 (by rw [yq];exact (ln0 hz rfl)) ?_
   refine IE ?_
   refine H9 ?_
   refine qa (λoo=>?_) (λe=>absurd (of_decide_eq_false e) (by rw [yq];exact (λy0=>y0 (qq [.nt VA VB] (.zl (.c VA) (.c VB)) rfl hcl))))
   rcases hc.at hcj with ⟨d,e1,e2⟩|⟨e1,e2⟩
   ·have hd:=h2 d (yC e1)
    have hdl:d<tbl.length:=by
     rcases hc.at e1 with ⟨_,_,e⟩|⟨_,e⟩<;>exact qw e
    refine Ir qg gk' ok h1 rfl (by rfl) (by rfl) ?_
    refine Ii h3 (yt _) (lz0 hz hcl rfl) (qP e2) ?_
    refine IE (H9 (x9 (qD [.nl KC VA] (.zl UC (.c VA)) rfl hd) ?_))
    refine IE (H9 (x9 (Ur [.nl VA KO,.zl UQ ZA,.nt VB VA] (.zl (.c VB) (.s ZA UL)) rfl hz hge hdl) ?_))
    refine zQ (qw hcj) (qj c hcj rfl) (.refl _) (λgs' f' H' ej eH ok' hh' hN'=>?_)
    subst eH
    refine qB (id hN') λff' ro' h1' h3'=>?_
    have gk'':GOk (g4 {p with gs:=gs'.gens}) mg mb:=gk.gen
    change FOk (g4 {p with gs:=gs'.gens}) f' at ok'
    refine Ir qg gk'' ok' h1' rfl (by rfl) (by rfl) ?_
    refine Ii h3' (yt _) (lz0 hz hcl rfl) (qP e2) ?_
    exact qa (qM [.ne VA (.a VB KB)] (.nt VB VA) [1,-1] rfl ej) (qK d (by rw [ej];exact e1) rfl hN')
   ·refine Ir qg gk' ok h1 rfl (by rfl) (by rfl) ?_
    refine Ii h3 (yt _) (lz0 hz hcl rfl) (qP e2) ?_
    refine IE (H9 (x9 (by rcases hm with ⟨_,h⟩|h<;>(first|lia|omega)) ?_))
    refine IE (H9 (jJ (by rcases hm with ⟨h,h'⟩|h;rw [Qd h];exact (WM.mpr (kL [.ze ZA (.k 4080)] (.zt (.s UQ UL) ZA) [1,-1] rfl h'));exact (WM.mpr (QH [.zl (.s ZA UH) ZB] (.zt (.s ZA UL) ZB) rfl h.1))) ?_))
    refine Ir qg gk' ok h1 rfl (by rfl) (by rfl) ?_
    refine jb.c xM gk' ok 12 h1 rfl rfl ?_
    refine Ix (H9 ?_)
    rcases hm with ⟨hk12,hm'⟩|⟨hm1,hm2⟩
    ·refine XT hk12 ?_
     refine Ir qg gk' ok h1 rfl (by rfl) (by rfl) ?_
     refine Ii h3 (yt _) (lz0 hz hcl rfl) (qP e2) ?_
     refine jb.c xM gk' ok 4080 h1 rfl rfl ?_
     refine Ix (H9 (XT hm' (vo ?_)))
     exact zQ (qw hcj) (qj c hcj rfl) (.refl _) (λgs' f' H' ej eH ok' hh' hN'=>(zQ rfl rfl (xJ [.ne (.a VA KB) VB,.ne VC (.a VA KB)] (.ne VC VB) [1,-1,-1] [1,1,1] rfl e1 ej) (by subst eH;exact .refl _)))
    ·by_cases hk12:D.kd=12
     ·refine XT hk12 ?_
      refine Ir qg gk' ok h1 rfl (by rfl) (by rfl) ?_
      refine Ii h3 (yt _) (lz0 hz hcl rfl) (qP e2) ?_
      refine jb.c xM gk' ok 4080 h1 rfl rfl ?_
      rw [Qd hk12] at hm1 hm2
      refine Ix (H9 (ZU (λz0=>(kL [.zl (.s UQ UH) ZA,.ze ZA (.k 4080)] .ff [0,1,1] rfl hm1 z0)) (qX ?_)))
      refine Ir qg gk' ok h1 rfl (by rfl) (by rfl) ?_
      refine Ii h3 (yt _) (lz0 hz hcl rfl) (qP e2) ?_
      refine IE (H9 (x9 (by rw [Qd hk12];exact hm1) ?_))
      refine IE (H9 (x9 (by rw [Qd hk12];exact hm2) ?_))
      exact zQ (qw hcj) (qj c hcj rfl) (.refl _) (λgs' f' H' ej eH ok' hh' hN'=>(zQ rfl rfl (xJ [.ne (.a VA KB) VB,.ne VC (.a VA KB)] (.ne VC VB) [1,-1,-1] [1,1,1] rfl e1 ej) (by subst eH;exact .refl _)))
     ·refine ZU hk12 (qX ?_)
      refine Ir qg gk' ok h1 rfl (by rfl) (by rfl) ?_
      refine Ii h3 (yt _) (lz0 hz hcl rfl) (qP e2) ?_
      refine IE (H9 (x9 (by exact hm1) ?_))
      refine IE (H9 (x9 (by exact hm2) ?_))
      exact zQ (qw hcj) (qj c hcj rfl) (.refl _) (λgs' f' H' ej eH ok' hh' hN'=>(zQ rfl rfl (xJ [.ne (.a VA KB) VB,.ne VC (.a VA KB)] (.ne VC VB) [1,-1,-1] [1,1,1] rfl e1 ej) (by subst eH;exact .refl _)))
  ·exact JK (p:={p with gs:=gs.gens}) gk.gen hn hk ok hN (qa rfl (qK st (by rw [hj];exact hst) rfl hN))
theorem ZR (hn:n<790) (hk:j7 D.kd) {st:Nat} (hc:tbl[st]? =some m) (hm:m=0\/m=kTp D.kd - 8) (hz:tbl.length<=100):
  Zc (g4 p) n zi qT [(7,.ref D.a),(247,.int (st:Nat))] 0 false (λx=>x.cls= .ref 41) val (XC D tb tbl) where
 stop:=λx h=>by rw [h];exact p.kf.noStop
 run:=by
  refine qj (λgs σ=>σ=⟨UT D (st:Nat) (st:Nat),gs.H⟩/\XC D tb tbl gs.H) (λgs f σ ok hh hj hi=>?_) (λgs f ok hh hj hN=>?_)
  ·(refine qc hi λz15 z16=>?_;refine qB z16 λff ro h1 h3=>?_;clear hi;subst z15)
   have gk':GOk (g4 {p with gs:=gs.gens}) mg mb:=gk.gen
   change FOk (g4 {p with gs:=gs.gens}) f at ok
   have hge:=ky (kd:=D.kd)
   have hle:=Jo (kd:=D.kd)
   have hcl:=qw hc
   change (Ij .LtE _ _ _).wt (g4 {p with gs:=gs.gens}) f n _ _ _
   refine Ir qg gk' ok h1 rfl (by rfl) (by rfl) ?_
   refine IH h3 (by rw [yq];exact (ln0 hz rfl)) ?_
   refine IE ?_
   refine H9 ?_
   refine qa (λoo=>?_) (λe=>absurd (of_decide_eq_false e) (by rw [yq];exact (λy0=>y0 (qq [.nt VA VB] (.zl (.c VA) (.c VB)) rfl hcl))))
   rcases hm with rfl|rfl<;>by_cases hk12:D.kd=12
   ·refine Ir qg gk' ok h1 rfl (by rfl) (by rfl) ?_
    refine Ii h3 (yt _) (lz0 hz hcl rfl) (qP hc) ?_
    refine IE (H9 (jJ (by decide) (qX ?_)))
    refine Ir qg gk' ok h1 rfl (by rfl) (by rfl) ?_
    refine jb.c xM gk' ok 12 h1 rfl rfl ?_
    refine Ix (H9 (XT hk12 ?_))
    refine Ir qg gk' ok h1 rfl (by rfl) (by rfl) ?_
    refine Ii h3 (yt _) (lz0 hz hcl rfl) (qP hc) ?_
    refine jb.c xM gk' ok 4080 h1 rfl rfl ?_
    refine Ix (H9 (ZU (by have:=Qd hk12;exact (λz0=>(LB [] [] [.ze UA (.k 4080)] .ff [0,-1] rfl z0))) (qX ?_)))
    refine Ir qg gk' ok h1 rfl (by rfl) (by rfl) ?_
    refine Ii h3 (yt _) (lz0 hz hcl rfl) (qP hc) ?_
    refine IE (H9 (jJ (WM.mpr (za [.zl UQ ZA] (.zt UA (.s ZA UH)) rfl hge)) (qX ?_)))
    refine Ir qg gk' ok h1 rfl (by rfl) (by rfl) ?_
    refine Ii h3 (yt _) (lz0 hz hcl rfl) (qP hc) ?_
    refine jK gk' ok hk _ (.inr (.inr (.inr (.inl (qa rfl rfl))))) ?_
    refine Ix (H9 (jJ (λz0=>(kL [.zl UQ ZA,.ze UA (.s ZA UI)] .ff [0,1,-1] rfl hge z0)) ?_))
    refine Ir qg gk' ok h1 rfl (by rfl) (by rfl) ?_
    refine Ii h3 (yt _) (lz0 hz hcl rfl) (qP hc) ?_
    refine jK gk' ok hk _ (.inl (qa rfl rfl)) ?_
    refine Ix (H9 (x9 rfl ?_))
    exact v6 gk' ok hh (by exact (lk0 hn rfl)) λa=>(zQ rfl (FJ.mp hj) rfl (.refl _))
   ·refine Ir qg gk' ok h1 rfl (by rfl) (by rfl) ?_
    refine Ii h3 (yt _) (lz0 hz hcl rfl) (qP hc) ?_
    refine IE (H9 (jJ (by decide) (qX ?_)))
    refine Ir qg gk' ok h1 rfl (by rfl) (by rfl) ?_
    refine jb.c xM gk' ok 12 h1 rfl rfl ?_
    refine Ix (H9 (ZU hk12 (qX ?_)))
    refine Ir qg gk' ok h1 rfl (by rfl) (by rfl) ?_
    refine Ii h3 (yt _) (lz0 hz hcl rfl) (qP hc) ?_
    refine IE (H9 (jJ (WM.mpr (za [.zl UQ ZA] (.zt UA (.s ZA UH)) rfl hge)) (qX ?_)))
    refine Ir qg gk' ok h1 rfl (by rfl) (by rfl) ?_
    refine Ii h3 (yt _) (lz0 hz hcl rfl) (qP hc) ?_
    refine jK gk' ok hk _ (.inr (.inr (.inr (.inl (qa rfl rfl))))) ?_
    refine Ix (H9 (jJ (λz0=>(kL [.zl UQ ZA,.ze UA (.s ZA UI)] .ff [0,1,-1] rfl hge z0)) ?_))
    refine Ir qg gk' ok h1 rfl (by rfl) (by rfl) ?_
    refine Ii h3 (yt _) (lz0 hz hcl rfl) (qP hc) ?_
    refine jK gk' ok hk _ (.inl (qa rfl rfl)) ?_
    refine Ix (H9 (x9 rfl ?_))
    exact v6 gk' ok hh (by exact (lk0 hn rfl)) λa=>(zQ rfl (FJ.mp hj) rfl (.refl _))
   ·refine Ir qg gk' ok h1 rfl (by rfl) (by rfl) ?_
    refine Ii h3 (yt _) (lz0 hz hcl rfl) (qP hc) ?_
    refine IE (H9 (x9 (za [.zl UQ ZA] (.zl UC (.s ZA UI)) rfl hge) ?_))
    refine IE (H9 (jJ (WM.mpr (za [] (.zt (.s ZA UL) (.s ZA UI)) rfl)) ?_))
    refine Ir qg gk' ok h1 rfl (by rfl) (by rfl) ?_
    refine jb.c xM gk' ok 12 h1 rfl rfl ?_
    refine Ix (H9 (XT hk12 ?_))
    refine Ir qg gk' ok h1 rfl (by rfl) (by rfl) ?_
    refine Ii h3 (yt _) (lz0 hz hcl rfl) (qP hc) ?_
    refine jb.c xM gk' ok 4080 h1 rfl rfl ?_
    refine Ix (H9 (ZU (by have:=Qd hk12;exact (λz0=>(kL [.ze ZA UQ,.ze (.s ZA UI) (.k 4080)] .ff [0,-1,1] rfl this z0))) (qX ?_)))
    refine Ir qg gk' ok h1 rfl (by rfl) (by rfl) ?_
    refine Ii h3 (yt _) (lz0 hz hcl rfl) (qP hc) ?_
    refine IE (H9 (jJ (WM.mpr (za [] (.zt (.s ZA UI) (.s ZA UH)) rfl)) (qX ?_)))
    refine Ir qg gk' ok h1 rfl (by rfl) (by rfl) ?_
    refine Ii h3 (yt _) (lz0 hz hcl rfl) (qP hc) ?_
    refine jK gk' ok hk _ (.inr (.inr (.inr (.inl (qa rfl rfl))))) ?_
    refine Ix (H9 (x9 rfl ?_))
    exact v6 gk' ok hh (by exact (lk0 hn rfl)) λa=>(zQ rfl (FJ.mp hj) rfl (.refl _))
   ·refine Ir qg gk' ok h1 rfl (by rfl) (by rfl) ?_
    refine Ii h3 (yt _) (lz0 hz hcl rfl) (qP hc) ?_
    refine IE (H9 (x9 (za [.zl UQ ZA] (.zl UC (.s ZA UI)) rfl hge) ?_))
    refine IE (H9 (jJ (WM.mpr (za [] (.zt (.s ZA UL) (.s ZA UI)) rfl)) ?_))
    refine Ir qg gk' ok h1 rfl (by rfl) (by rfl) ?_
    refine jb.c xM gk' ok 12 h1 rfl rfl ?_
    refine Ix (H9 (ZU hk12 (qX ?_)))
    refine Ir qg gk' ok h1 rfl (by rfl) (by rfl) ?_
    refine Ii h3 (yt _) (lz0 hz hcl rfl) (qP hc) ?_
    refine IE (H9 (jJ (WM.mpr (za [] (.zt (.s ZA UI) (.s ZA UH)) rfl)) (qX ?_)))
    refine Ir qg gk' ok h1 rfl (by rfl) (by rfl) ?_
    refine Ii h3 (yt _) (lz0 hz hcl rfl) (qP hc) ?_
    refine jK gk' ok hk _ (.inr (.inr (.inr (.inl (qa rfl rfl))))) ?_
    refine Ix (H9 (x9 rfl ?_))
    exact v6 gk' ok hh (by exact (lk0 hn rfl)) λa=>(zQ rfl (FJ.mp hj) rfl (.refl _))
  ·exact JK (p:={p with gs:=gs.gens}) gk.gen (by exact (lk0 hn rfl)) hk ok hN (qy rfl rfl hN)
end
noncomputable def zK (v:Int) (t:List Int) (cs:List Nat):List Int:=cs.foldl (λt c=>t.set c v) t
noncomputable def XX (ff:Int) (cs:List Nat):Int:=cs.foldl (λ(a:Int) (c:Nat)=>min (c:Int) a) ff
theorem jB: ∀{t:List Int},(zK v t cs).length=t.length:=by
 induction cs with
 |nil=>exact @λoo=>rfl
 |cons c r ih=>exact @λt=>(ih (t:=t.set c v)).trans Bj
theorem wy:zK v t (cs++[c])=(zK v t cs).set c v:=D3
theorem Ug {c:Nat}:XX ff (cs++[c])=min (c:Int) (XX ff cs):=D3
theorem zy {α:Type} {l:List α} {c:α} (h:l[k]? =some c):l.take (k+1)=l.take k++[c]:=by rw [List.take_add_one,h];rfl
noncomputable abbrev DK.ht (tb:yu) (t:List Int):yu × O:=(tb,.list (t.map V.int))
theorem map_set {t:List Int}:(t.map V.int).set c (.int v)=(t.set c v).map V.int:=(List.map_set ..).symm
theorem zw.wk (t:qp H₂ H H₁) (h:zw g f n m xs ks tg b o Q E ⟨loc,H₂⟩):zw g f n m xs ks tg b o Q E ⟨loc,H⟩:=
 Op.mk λu a vs kw ha hv hk A s hA hs=>h.h u a vs kw ha hv hk A s hA (hs.take t)
section
variable {p:GP} {mg mb:Str->Option yr} (gk:GOk (g4 p) mg mb) {D:DK} {tb:yu} {tbl:List Int} {ff:Int}
include gk
theorem JI (hk:k<600) (u:j7 D.kd) (hc:Ch tbl m cs) (hm:k9 D.kd m) (hz:tbl.length<=100) (h2: ∀c∈cs,2<=c) {st:Nat} (a4:cs[0]? =some st):
  qs (g4 p) k none (.ref 253) [.ref D.a,.int (st:Nat)] [] [D.ha ff tb false,DK.ht tb tbl] (λy H'=>y= .none/\∃tt,H'=[D.ha (XX ff cs) tt false,DK.ht tt (zK 0 tbl cs)]) (λoo oo=>False):=by
 refine Ip gk GF.f_PyFat_free_cluster_chain (lk0 hk rfl) (Im (i:=7) (j:=41) GF.b_PyFat_free_cluster_chain rfl) rfl rfl [some (.ref D.a),some (.int (st:Nat)),none,none,none] rfl λf ok hh=>?_
 refine Iu gk ok GF.f_init_check (xt gk (by exact (lk1 hk rfl))) ((tk0 .nil)) ?_
 refine Iu gk ok GF.f_readonly_check (kU gk (by exact (lk1 hk rfl))) ((tk0 .nil)) ?_
 refine fcv gk ok (pm 0 rfl) rfl ?_
 refine Ir qg gk (by assumption) (pm 0 rfl) rfl rfl rfl ?_
 refine jI gk ok u ?_
 refine jK gk ok u _ (.inl (qa rfl rfl)) ?_
 refine Ir qg gk (by assumption) (pm 0 rfl) rfl rfl rfl ?_
 refine II (pm 1 rfl) PySem.F.slot_list_copy PySem.F.type_list_copy ?_
 refine qb.copy (pm 1 rfl) (by rw [yq];exact (ll0 hz rfl)) λtt=>?_
 refine λX=>?_
 refine IZ qg gk ok (C:=380) (pm 1 rfl) (fa:=356) rfl rfl ?_
 refine zw.wk (H₂:=[D.ha ff tb false,DK.ht tb tbl,DK.ht tt tbl]) ((tk1 (tk1 (tk0 .nil)))) ?_
 refine zw.of gk ok hh (by show k+3<1000;exact (lk1 hk rfl)) GF.gen rfl (Im (i:=7) (j:=247) GF.b_gen rfl) rfl rfl (Qf gk (tb:=tb) (by exact (lk2 hk rfl)) u hc hm hz h2 a4) X
  (λj σ=>∃z,σ=⟨[some (.ref D.a),some (.int (st:Nat)),some (.int 0),some (.ref tt),z],[D.ha (XX ff (cs.take j)) tb false,DK.ht tb tbl,DK.ht tt (zK 0 tbl (cs.take j))]⟩) (λj σ hi=>?_) ?_ (λgs q j x σ g hj hx hi=>?_) (λoo σ hi=>?_) (λe=>yQ e)
 ·(refine qA hi λz a3=>?_;clear hi;subst a3)
  exact qU _ _ (.head _) (.tail _ (.head _))
 ·exact qx none rfl
 ·(refine qA hi λz a2=>?_;clear hi;subst a2)
  (refine qf hx λc J a1=>?_;clear hx;subst a1)
  have Z:GOk (g4 {p with gs:=gs}) mg mb:=gk.gen
  change FOk (g4 {p with gs:=gs}) (f.at q) at g
  have I:c<tbl.length:=by
   rcases hc.at J with ⟨d,_,e⟩|⟨_,e⟩<;>exact qw e
  refine IJ (uq2 uq0) (yt _) (lz0 hz I rfl) (by rw [yq,jB];exact (Bg.mpr I)) ?_
  refine Ir qg Z g (pm 0 rfl) rfl (by rfl) (by rfl) ?_
  refine qb.min hh ?_
  refine I7 qg Z g (uq0) rfl rfl ?_
  dsimp only [nxt,wSs,turn]
  refine IY (H₂:=[D.ha (min (c:Int) (XX ff (cs.take j))) tb false,DK.ht tb tbl,(tt,.list (((zK 0 tbl (cs.take j)).map V.int).set ((c:Nat):Int).toNat (.int 0)))]) ((tk0 (tk0 (tk0 .nil)))) ?_
  refine qx (some (.int (c:Nat))) ?_
  rw [zy J,Ug,wy,yW,map_set]
  rfl
 ·(refine qA hi λz a0=>?_;clear hi;subst a0)
  rw [Bs]
  refine I7 qg gk ok (uq0) rfl rfl ?_
  exact zp (.keep (.drop (.refl _))) (qa rfl (qx tt rfl))
theorem Zf (hk:k<600) {st:V}:
  qs (g4 p) k none (.ref 253) [.ref D.a,st] [] [D.ha ff tb true] (λy H'=>False) (λx H'=>x.cls= .ref 41/\H'=[D.ha ff tb true]):=by
 refine Ip gk GF.f_PyFat_free_cluster_chain (lk0 hk rfl) (Im (i:=7) (j:=41) GF.b_PyFat_free_cluster_chain rfl) rfl rfl [some (.ref D.a),some st,none,none,none] rfl λf ok hh=>?_
 refine Iu gk ok GF.f_init_check (xt gk (by exact (lk1 hk rfl))) ((tk0 .nil)) ?_
 refine qb.fnE gk ok GF.f_readonly_check (hh ▸ Zn gk (by exact (lk1 hk rfl))) ((tk0 .nil)) λe=>?_
 exact qK _ (.refl _) rfl rfl
theorem X3 (hk:k<600) (g:j7 D.kd) {st:Nat} (hc:tbl[st]? =some m) (hm:m=0\/m=kTp D.kd - 8) (hz:tbl.length<=100):
  qs (g4 p) k none (.ref 253) [.ref D.a,.int (st:Nat)] [] [D.ha ff tb false,DK.ht tb tbl] (λy H'=>False) (λx H'=>x.cls= .ref 41/\H'=[D.ha ff tb false,DK.ht tb tbl]):=by
 refine Ip gk GF.f_PyFat_free_cluster_chain (lk0 hk rfl) (Im (i:=7) (j:=41) GF.b_PyFat_free_cluster_chain rfl) rfl rfl [some (.ref D.a),some (.int (st:Nat)),none,none,none] rfl λf ok hh=>?_
 refine Iu gk ok GF.f_init_check (xt gk (by exact (lk1 hk rfl))) ((tk0 .nil)) ?_
 refine Iu gk ok GF.f_readonly_check (kU gk (by exact (lk1 hk rfl))) ((tk0 .nil)) ?_
 refine fcv gk ok (pm 0 rfl) rfl ?_
 refine Ir qg gk (by assumption) (pm 0 rfl) rfl rfl rfl ?_
 refine jI gk ok g ?_
 refine jK gk ok g _ (.inl (qa rfl rfl)) ?_
 refine Ir qg gk (by assumption) (pm 0 rfl) rfl rfl rfl ?_
 refine II (pm 1 rfl) PySem.F.slot_list_copy PySem.F.type_list_copy ?_
 refine qb.copy (pm 1 rfl) (by rw [yq];exact (ll0 hz rfl)) λtt=>?_
 refine λu=>?_
 refine IZ qg gk ok (C:=380) (pm 1 rfl) (fa:=356) rfl rfl ?_
 refine zw.wk (H₂:=[D.ha ff tb false,DK.ht tb tbl]) ((tk1 (tk1 .nil))) ?_
 refine zw.of gk ok hh (by show k+3<1000;exact (lk1 hk rfl)) GF.gen rfl (Im (i:=7) (j:=247) GF.b_gen rfl) rfl rfl (ZR gk (tb:=tb) (val:=λoo oo=>True) (by exact (lk2 hk rfl)) g hc hm hz) u
  (λj σ=>σ.H=[D.ha ff tb false,DK.ht tb tbl]) (λj σ hi=>(qU ff false (by rw [hi];exact .head _) (by rw [hi];exact .tail _ (.head _)))) rfl (λgs q j x σ I hj hx hi=>absurd hj (DJ _)) (λe=>yQ e) λoo x σ hx hi=>?_
 exact qK _ (.refl _) hx hi
end
noncomputable def jU (tbl:List Int) (i:Nat):Bool:=decide (2<=i) && (tbl[i]? ==some 0)
noncomputable def frs (tbl:List Int) (ff m:Nat):List Nat:=(HI ff m).filter (jU tbl)
theorem xh:frs tbl ff (m+1)=frs tbl ff m++if jU tbl (ff+m) then [ff+m] else []:=by
 unfold frs
 rw [HS,FU]
 congr 1
 by_cases h:jU tbl (ff+m)=true
 ·rw [if_pos h,List.filter_cons_of_pos h];rfl
 ·rw [if_neg h,List.filter_cons_of_neg h];rfl
theorem kF (h:c∈frs tbl ff m):ff<=c/\c<ff+m/\2<=c/\tbl[c]? =some 0:=by
 refine qc (BY.mp h) λh1 h2=>?_
 refine qf (List.mem_range'.mp h1) λi h3 h4=>?_
 unfold jU at h2
 rw [BI,decide_eq_true_eq,beq_iff_eq] at h2
 exact zQ (qQ [.ne VA (.a VB (.m 1 VC))] (.nl VB VA) [1,-1] rfl h4) (kr [.nt VA VB,.ne VC (.a VD (.m 1 VA))] (.nt VC (.a VD VB)) rfl h3 h4) h2.1 h2.2
theorem vM (h:m<=k):(frs tbl ff m).length<=(frs tbl ff k).length:=by
 induction k with
 |zero=>rw [FJ.mp h];exact yM _
 |succ k ih=>
  refine Or.elim (W5 m (k+1)) (λh'=>?_) λh'=>?_
  ·refine yX (ih (qq [.nt VA (.a VB KB)] (.nl VA VB) rfl h')) ?_
   rw [xh,yS];exact (qq [] (.nl VA (.a VA VB)) rfl)
  ·rw [show m=k+1 by exact (zH [.nl VA (.a VB KB),.nl (.a VB KB) VA] (.ne VA (.a VB KB)) [1,0,1] [1,1,0] rfl h h')];exact yM _
noncomputable def nx (top:Int) (fl:List Nat) (i:Nat):Int:=match fl[i+1]? with|some d=>(d:Int)|none=>top
noncomputable def qJ (top:Int) (fl:List Nat) (t:List Int) (j:Nat):List Int:=Fz t (λj r=>r.set (fl.getD j 0) (nx top fl j)) j
theorem jh:qJ top fl t (j+1)=(qJ top fl t j).set (fl.getD j 0) (nx top fl j):=rfl
theorem zo:(qJ top fl t j).length=t.length:=by
 induction j with
 |zero=>rfl
 |succ j ih=>rw [jh,Bj,ih]
noncomputable def wr (d:List UInt8) (P:Nat) (c:List UInt8):List UInt8:=d.take P++c++d.drop (P+c.length)
theorem Yw {P:Nat} (h:P+c.length<=d.length):(wr d P c).length=d.length:=by
 unfold wr
 rw [yS,yS,Wx,Ws];exact (LA [_,_,_,_,_] [] [.ne VA VB,.ne (.a VC (.a VB VD)) VE] (.ne (.a (.a VA VD) VC) VE) [1,-1,-1] [1,1,1] rfl (Wz (qR [.nl (.a VA VB) VC] (.nl VA VC) rfl h)) (yn h))
noncomputable def plc (low c:Nat):Nat:=low+4*(c - 2)
noncomputable def zq (low:Nat) (fl:List Nat) (d:List UInt8) (j:Nat):List UInt8:=Fz d (λj r=>wr r (plc low (fl.getD j 0)) [0,0,0,0]) j
theorem Zr:zq low fl d (j+1)=wr (zq low fl d j) (plc low (fl.getD j 0)) [0,0,0,0]:=rfl
theorem Q7:(∀i<j,plc low (fl.getD i 0)+4<=d.length)->(zq low fl d j).length=d.length:=by
 induction j with
 |zero=>exact λoo=>rfl
 |succ j ih=>
  intro h
  have ih:=ih λi hi=>h i (Nat.lt_succ_of_lt hi)
  rw [Zr,Yw,ih]
  rw [ih];exact h j (Hp _)
structure DOk (D:DK) (low:Nat):Prop where
 kd:j7 D.kd
 pl: ∀c:Nat,2<=c->D.at c+D.sh=((plc low c:Nat):Int)
theorem Zq:wSs g f n [] Q E σ=Q .next σ:=rfl
theorem kC {fl:List Nat} (h:fl[k]? =some c):(fl.map λc=>V.int (c:Nat))[((k:Nat):Int).toNat]? =some (.int (c:Nat)):=by
 rw [yW,yO,h];rfl
noncomputable abbrev qd (fl:List Nat):List V:=fl.map λc=>V.int (c:Nat)
theorem zd {fl:List Nat} (h:fl[k]? =some c):fl.getD k 0=c:=by rw [We,h];rfl
section
variable {p:GP} {mg mb:Str->Option yr} (gk:GOk (g4 p) mg mb) {D:DK} {tb:yu} {tbl:List Int} {low:Nat}
include gk
theorem J4 (hk:k<900) {P:Nat} (hp:P+c.length<=d.length) (hz:d.length<=10000):
  qs (g4 p) k hd (.ref 122) [.ref a,.bytes c] [] [(a,.inst 125 (QM d (P:Nat)) none)] (λy H'=>y= .none/\H'=[(a,.inst 125 (QM (wr d P c) ((P+c.length:Nat):Int)) none)]) (λoo oo=>False):=
 (Xq gk hk (by exact (yt _)) (by exact (qR [.nl (.a VA VB) VC] (.zl (.c VA) (.c VC)) rfl hp)) (by exact (qQ [.nl (.a VA VB) VC,.nl VC KR] (.nl (.a VC VB) KS) [1,1,2] rfl hp hz))).mono (λx H zf=>zf.elim λh1 h2=>(qa h1 h2)) λoo oo h=>h
theorem Z2 (hk:k<600) (hD:DOk D low) {er:Bool} (hc:fl[j]? =some c) (h2:2<=c) (hp:plc low c+4<=d.length) (hd:d.length<=10000) (g:fl.length<=100) (ok:FOk (g4 p) f) (hh:f.hd=none)
  (h: ∀x' H',qp [D.ha (i:Nat) tb false,D.ho (if er then wr d (plc low c) [0,0,0,0] else d) x',D.hc,DK.ht tb tb',(l,.list (qd fl))] H' [T0]->Q .next ⟨[some (.ref D.a),some (.int many),some (.bool er),some (.int 0),some (.int 2),some (.int (kTp D.kd - 16)),some nd,some (.ref l),some (.int (j:Nat)),none,some (.int (kTp D.kd)),some z2],H'⟩):
  wSs (g4 p) f (k+3) [Iq (Ij .Is (H8 2 217015020) (It true 217024028) 217015028)
    [IC (Ik (H8 0 218016020) 39 [(Ik (H8 0 218027031) 38 [(Io (H8 7 218057070) (H8 8 218071072) 218057073)] [] 218027056 218027074)] [] 218016026 218016075) 218016075,
    IC (Ik (Ic (H8 0 219016020) 12 219016024) 8 [(Ig .Mult (I1 [0] 219031038) (Ic (H8 0 219041045) 19 219041063) 219031063)] [] 219016030 219016064) 219016064]
    [] 2217012064] Q EE ⟨[some (.ref D.a),some (.int many),some (.bool er),some (.int 0),some (.int 2),some (.int (kTp D.kd - 16)),some nd,some (.ref l),some (.int (j:Nat)),none,some (.int (kTp D.kd)),some z2],[T0,D.ha (i:Nat) tb false,D.ho d x,D.hc,DK.ht tb tb',(l,.list (qd fl))]⟩:=by
 have u:=qw hc
 refine I3 (H9 ?_)
 cases er with
 |false=>exact qX (h x _ ((tk1 (tk1 (tk1 (tk1 (tk1 .nil)))))))
 |true=>
  refine ke ?_
  refine IZ qg gk ok (C:=380) (pm 1 rfl) (fa:=169) rfl rfl ?_
  refine IZ qg gk ok (C:=380) (pm 1 rfl) (fa:=349) rfl rfl ?_
  refine Ii (pm 5 rfl) (yt _) (lz0 g u rfl) (kC hc) ?_
  refine Iu gk ok GF.f_PyFat_get_data_cluster_address (ZP gk (by exact (lk1 hk rfl)) (c:=(c:Nat))) ((tk1 (tk2 .nil))) ?_
  refine Iu gk ok GF.f_PyFat_seek (Qw gk (by exact (lk1 hk rfl)) (d:=d) (x:=x)) ((tk0 (tk2 .nil))) ?_
  rw [hD.pl c h2]
  refine Ir qg gk (by assumption) (pm 1 rfl) rfl rfl rfl ?_
  refine IZ qg gk ok (C:=125) (pm 0 rfl) (fa:=122) rfl rfl ?_
  refine Ir qg gk (by assumption) (pm 1 rfl) rfl rfl rfl ?_
  refine qo.repBE (c:=[0,0,0,0]) (by simp) (by simp) (by decide) (by decide) rfl ?_
  refine Iu gk ok GF.f_Octets_write (J4 gk (by exact (lk1 hk rfl)) (d:=d) (c:=[0,0,0,0]) (P:=plc low c) hp hd) ((tk0 .nil)) ?_
  exact h _ _ ((tk1 (tk0 (tk0 (tk1 (tk1 .nil))))))
theorem Ja (hk:k<600) (hD:DOk D low) (Z: ∀c∈fl,2<=c/\c<tbl.length/\plc low c+4<=d.length) (hz:tbl.length<=100) (hd:d.length<=10000) (u:fl.length<=100) (ok:FOk (g4 p) f) (hh:f.hd=none)
  (h: ∀loc x',Q (.ret (.ref l)) ⟨loc,[D.ha (i:Nat) tb false,D.ho (if er then zq low fl d fl.length else d) x',D.hc,DK.ht tb (qJ (kTp D.kd) fl tbl fl.length),(l,.list (qd fl))]⟩):
  wSs (g4 p) f (k+3) (b_PyFat_allocate_bytes.drop 8) Q EE
   ⟨[some (.ref D.a),some (.int many),some (.bool er),some (.int 0),some (.int 2),some (.int (kTp D.kd - 16)),some nd,some (.ref l),some (.int (i:Nat)),none,none,none],D.ha ff tb false::D.ho d x::D.hc::DK.ht tb tbl::(l,.list (qd fl))::R0⟩:=by
 refine I7 qg gk ok (uq0) rfl rfl ?_
 refine fcv gk ok (pm 0 rfl) rfl ?_
 refine Ir qg gk (by assumption) (pm 0 rfl) rfl rfl rfl ?_
 refine jI gk ok hD.kd ?_
 refine jK gk ok hD.kd _ (.inr (.inr (.inr (.inr (.inr (qa rfl rfl)))))) ?_
 refine qb.enumL (pm 4 rfl) λe it oi a5=>?_
 refine zC.wk (H₂:=[(e,.raw (Zz it 0 .none)),(it,.raw oi),D.ha (i:Nat) tb false,D.ho d x,D.hc,DK.ht tb tbl,(l,.list (qd fl))]) ((tk0 (tk0 (tk0 (tk0 (tk0 (tk0 (tk0 .nil)))))))) ?_
 refine zC.enum gk ok hh (λk oi h q=>by rw [h.1] at q;injection q with q;exact absurd q (by decide)) (ki (l:=l) (xs:=qd fl)) a5
  (λj σ=>∃z1 z2 x',σ=⟨[some (.ref D.a),some (.int many),some (.bool er),some (.int 0),some (.int 2),some (.int (kTp D.kd - 16)),some nd,some (.ref l),z1,none,some (.int (kTp D.kd)),z2],[D.ha (i:Nat) tb false,D.ho (if er then zq low fl d j else d) x',D.hc,DK.ht tb (qJ (kTp D.kd) fl tbl j),(l,.list (qd fl))]⟩) (λj σ hi=>?_) ?_ (λq j T y σ F hj hi=>?_) (λσ hi=>?_)
 ·(refine zc hi λz1 z2 x' a2=>?_;clear hi;subst a2)
  exact pm 4 rfl
 ·exact qW _ _ x (by cases er<;>rfl)
 ·(refine zc hi λz1 z2 x' a1=>?_;clear hi;subst a1)
  have C:j<fl.length:=by have:=qw hj;rwa [yq] at this
  have a6:=yw C
  obtain ⟨c,hc⟩: ∃c,fl[j]? =some c:=(qx _ a6)
  have g:=Z c (yC hc)
  have I:(if er then zq low fl d j else d).length=d.length:=by
   cases er
   ·rfl
   ·refine Q7 λi hi=>?_
    rw [zd (yw (show i<fl.length by exact (qR [.nt VA VB,.nt VC VA] (.nt VC VB) rfl C hi)))]
    exact (Z _ (BJ _)).2.2
  refine wD.tup (show (f.at q).hd=none from hh) (.head _) rfl ?_
  dsimp only [sts,st]
  have X: ∀{v:Int},v=nx (kTp D.kd) fl j->((qJ (kTp D.kd) fl tbl j).map V.int).set ((c:Nat):Int).toNat (.int v)=(qJ (kTp D.kd) fl tbl (j+1)).map V.int:=by
   rintro _ rfl
   rw [jh,zd hc,yW,map_set]
  have J:(if er then wr (if er then zq low fl d j else d) (plc low c) [0,0,0,0] else if er then zq low fl d j else d)=if er then zq low fl d (j+1) else d:=by
   cases er
   ·rfl
   ·rw [if_pos rfl,if_pos rfl,if_pos rfl,Zr,zd hc]
  cases hn:fl[j+1]? with
  |some d'=>
   refine Iz ?_
   refine Ii (pm 5 rfl) (qD [] (.zl UA (.a (.c VA) UB)) rfl) (qq [.nl VA KO,.nt VB VA] (.zt (.a (.c VB) UB) UU) rfl u C) (x:= .int (d':Nat)) (by rw [show (((j:Nat):Int)+1).toNat=j+1 by exact (zH [.ze (.c VA) (.a (.c VB) UB)] (.ne VA (.a VB KB)) [1,-1] [1,1] rfl (yz (qD [] (.zl UA (.a (.c VA) UB)) rfl))),yO,hn];rfl) ?_
   refine Ir qg gk F (pm 1 rfl) rfl (by rfl) (by rfl) ?_
   refine Ii (pm 5 rfl) (yt _) (lz0 u C rfl) (kC hc) ?_
   refine IJ (uq4 uq0) (yt _) (lz0 hz g.2.1 rfl) (by rw [yq,zo];exact (Bg.mpr g.2.1)) ?_
   rw [X (by unfold nx;rw [hn])]
   dsimp only [nxt,Zq]
   refine Z2 gk hk hD hc g.1 (I ▸ g.2.2) (I ▸ hd) u F hh λa3 H' t=>?_
   rw [J] at t
   dsimp only [turn]
   exact IY t (qW _ _ _ rfl)
  |none=>
   refine Iz ?_
   refine qG.listOut hh (pm 5 rfl) (qD [] (.zl UA (.a (.c VA) UB)) rfl) (qq [.nl VA KO,.nt VB VA] (.zt (.a (.c VB) UB) UU) rfl u C) (by have:=List.getElem?_eq_none_iff.mp hn;rw [yq];exact (qq [.nl VA (.a VB KB)] (.zl (.c VA) (.a (.c VB) UB)) rfl this)) λe=>?_
   refine YC.of F (Y1.hit gk F (tv:= .type "IndexError") rfl p.kf.exmIdx λpr lx a4=>?_)
   refine Ir qg gk a4 (pm 1 rfl) rfl (by rfl) (by rfl) ?_
   refine Ii (pm 5 rfl) (yt _) (lz0 u C rfl) (kC hc) ?_
   refine IJ (uq4 uq0) (yt _) (lz0 hz g.2.1 rfl) (by rw [yq,zo];exact (Bg.mpr g.2.1)) ?_
   rw [X (by unfold nx;rw [hn])]
   dsimp only [nxt,Zq]
   refine Z2 gk hk hD hc g.1 (I ▸ g.2.2) (I ▸ hd) u F hh λa3 H' t=>?_
   rw [J] at t
   dsimp only [turn]
   exact IY t (qW _ _ _ rfl)
 ·(refine zc hi λz1 z2 x' a0=>?_;clear hi;subst a0)
  rw [yq]
  exact h _ x'
end
theorem uM:((g4 p).nm 230).length=34/\((g4 p).nm 231).length=8/\((g4 p).nm 232).length=12:=(qy (by kernel_rfl) (by kernel_rfl) (by kernel_rfl))
theorem jd (h:tbl[i]? =some v) (h2:2<=i):jU tbl i=decide (v=0):=by
 unfold jU
 rw [h,decide_eq_true h2,HV]
 by_cases e:v=0
 ·subst e;rfl
 ·rw [decide_eq_false e];exact beq_eq_false_iff_ne.mpr λq=>e (by obtain rfl:=Wc.inj q;rfl)
theorem uL (h2:i<2):jU tbl i=false:=by
 unfold jU;rw [decide_eq_false (by exact (Nat.not_le.mpr h2)),DX]
theorem xk:qd fl++[.int (c:Nat)]=qd (fl++[c]):=
 (yE (f:=λc:Nat=>V.int (c:Nat)) (l₁:=fl) (l₂:=[c])).symm
theorem xO:(frs tbl ff m).length<=m:=by
 unfold frs
 refine yX (Fi _ _) ?_
 rw [FV];exact yM _
section
variable {p:GP} {mg mb:Str->Option yr} (gk:GOk (g4 p) mg mb) {D:DK} {tb:yu} {tbl:List Int} {low:Nat}
include gk
theorem wX (hk:k<600) (hD:DOk D low) (hn: -(-many / 4)=nd) (ok:FOk (g4 p) f) (h: ∀l,wSs (g4 p) f (k+3) (b_PyFat_allocate_bytes.drop 7) Q EE
   ⟨[some (.ref D.a),some (.int many),some (.bool er),some (.int 0),some (.int 2),some (.int (kTp D.kd - 16)),some (.int nd),some (.ref l),none,none,none,none],(l,.list [])::D.ha ff tb false::H₂⟩):
  wSs (g4 p) f (k+3) b_PyFat_allocate_bytes Q EE ⟨[some (.ref D.a),some (.int many),some (.bool er),none,none,none,none,none,none,none,none,none],D.ha ff tb false::H₂⟩:=by
 refine Iu gk ok GF.f_init_check (xt gk (by exact (lk1 hk rfl))) (.cons .head .nil) ?_
 refine Iu gk ok GF.f_readonly_check (kU gk (by exact (lk1 hk rfl))) (.cons .head .nil) ?_
 refine fcv gk ok (.head _) rfl ?_
 refine Ir qg gk (by assumption) (pm 0 rfl) rfl rfl rfl ?_
 refine jI gk ok hD.kd ?_
 refine jK gk ok hD.kd _ (.inl (qa rfl rfl)) ?_
 refine fcv gk ok (.head _) rfl ?_
 refine Ir qg gk (by assumption) (pm 0 rfl) rfl rfl rfl ?_
 refine jI gk ok hD.kd ?_
 refine jK gk ok hD.kd _ (.inr (.inl (qa rfl rfl))) ?_
 refine fcv gk ok (.head _) rfl ?_
 refine Ir qg gk (by assumption) (pm 0 rfl) rfl rfl rfl ?_
 refine jI gk ok hD.kd ?_
 refine jK gk ok hD.kd _ (.inr (.inr (.inl (qa rfl rfl)))) ?_
 refine IZ qg gk ok (C:=380) (.head _) (fa:=276) rfl rfl ?_
 refine Iu gk ok GF.f_PyFat_calc_num_clusters (ua gk (by exact (lk1 hk rfl)) (m:=many)) (.cons .head .nil) ?_
 rw [hn]
 exact λl=>h l
theorem kR (hD:DOk D low) (hz:tbl.length<=100) (h3:3<=tbl.length) (J:ff<tbl.length) (a0:jU tbl (tbl.length - 1)=false) (ok:FOk (g4 p) f) (hh:f.hd=none)
  (h1: ∀i,ff<=i->i<tbl.length->2<=i->(frs tbl ff (i - ff)).length=nd->Q .next ⟨[some (.ref D.a),some (.int many),some (.bool er),some (.int 0),some (.int 2),some (.int (kTp D.kd - 16)),some (.int (nd:Nat)),some (.ref l),some (.int (i:Nat)),none,none,none],[D.ha (ff:Nat) tb false,D.ho d x,D.hc,DK.ht tb tbl,(l,.list (qd (frs tbl ff (i - ff)))),(r,.rng (ff:Nat) (tbl.length:Nat) 1)]⟩)
   (h2: ∀z,(frs tbl ff (tbl.length - ff)).length<nd->wSs (g4 p) f (k+3) o Q EE ⟨[some (.ref D.a),some (.int many),some (.bool er),some (.int 0),some (.int 2),some (.int (kTp D.kd - 16)),some (.int (nd:Nat)),some (.ref l),z,none,none,none],[D.ha (ff:Nat) tb false,D.ho d x,D.hc,DK.ht tb tbl,(l,.list (qd (frs tbl ff (tbl.length - ff)))),(r,.rng (ff:Nat) (tbl.length:Nat) 1)]⟩):
  zC (g4 p) f (k+3) (.one 8 196012013) (.ref r) [Iq (E.bo true [(Ij .Gt (H8 4 197015023) (H8 8 197026027) 197015027),(Ij .Gt (H8 8 197031032) (H8 5 197035043) 197031043)] 197015043)
    [S.cont 198016024]
    [] 1197012024,
   Iq (Ij .Eq (H8 6 199015027) (Ie (Ih 9 199031034) [(H8 7 199035048)] [] 199031049) 199015049)
    [S.brk 200016021]
    [] 1199012021,
   Iq (Ij .Eq (Io (Ic (H8 0 201015019) 24 201015023) (H8 8 201024025) 201015026) (H8 3 201030039) 201015039)
    [Iq (Ij .Eq (H8 8 202019020) (Io (Io (Ic (H8 0 202024028) 203 202024047) (Ic (H8 0 202048052) 23 202048061) 202024062) (IA 228 202063076) 202024077) 202019077)
     [S.cont 203020028]
     [] 1202016028,
    Iq (E.bo false [(Ij .Eq (Ic (H8 0 204019023) 23 204019032) (Ic (H8 0 204036040) 56 204036055) 204019055),(Ij .Eq (H8 8 204060061) (Ic (H8 0 204065069) 229 204065087) 204060087)] 204019087)
     [S.cont 205020028]
     [] 1204016028,
    I2 7 .Add (ID [(H8 8 206034035)] 206033036) 206016029 206016036]
    [] 5201012036] o Q EE ⟨[some (.ref D.a),some (.int many),some (.bool er),some (.int 0),some (.int 2),some (.int (kTp D.kd - 16)),some (.int (nd:Nat)),some (.ref l),none,none,none,none],[(r,.rng (ff:Nat) (tbl.length:Nat) 1),(l,.list []),D.ha (ff:Nat) tb false,D.ho d x,D.hc,DK.ht tb tbl]⟩:=by
 refine zC.wk (H₂:=[D.ha (ff:Nat) tb false,D.ho d x,D.hc,DK.ht tb tbl,(l,.list (qd [])),(r,.rng (ff:Nat) (tbl.length:Nat) 1)]) ((tk2 (tk2 (tk2 (tk2 (tk1 (tk0 .nil))))))) ?_
 refine zC.range gk ok hh (λj σ=>∃z,σ=⟨[some (.ref D.a),some (.int many),some (.bool er),some (.int 0),some (.int 2),some (.int (kTp D.kd - 16)),some (.int (nd:Nat)),some (.ref l),z,none,none,none],[D.ha (ff:Nat) tb false,D.ho d x,D.hc,DK.ht tb tbl,(l,.list (qd (frs tbl ff j))),(r,.rng (ff:Nat) (tbl.length:Nat) 1)]⟩/\(frs tbl ff j).length<=nd/\(ff+j=tbl.length->(frs tbl ff j).length<nd)) (pm 5 rfl) (by exact qa (qD [] (.zl (.n UV) (.c VA)) rfl) (lz0 hz J rfl)) (by exact qa (qD [] (.zl (.n UV) (.c VA)) rfl) (lz2 hz rfl)) (qK none rfl (WI _) (λe=>absurd e (λz0=>(qM [.nt VA VB,.ne (.a VA KA) VB] .ff [0,1,-1] rfl J e)))) (λq j σ u hj hi=>?_) λσ hi=>?_
 ·(refine zk hi λz a6 I F=>?_;clear hi;subst a6)
  have a3:=ky (kd:=D.kd)
  have a8:=Jo (kd:=D.kd)
  have a2:ff+j<tbl.length:=by exact (qR [.zt (.c VA) (.s (.c VB) (.c VC))] (.nt (.a VC VA) VB) rfl hj)
  obtain ⟨v,hv⟩: ∃v,tbl[ff+j]? =some v:=(qx _ (yw a2))
  have a1:=xO (tbl:=tbl) (ff:=ff) (m:=j)
  refine qm.gt (H9 ?_)
  by_cases h2:ff+j<2
  ·refine or_y (qq [.nt (.a VA VB) KC] (.zt (.a (.c VA) (.c VB)) UC) rfl h2) (ke ?_)
   have e:=xh (tbl:=tbl) (ff:=ff) (m:=j)
   rw [uL h2,if_neg WY,Wq] at e
   dsimp only [nxt,wSs,turn]
   exact Wk.of (qK _ (by rw [e];rfl) (by rw [e];exact I) (λq=>by exact (LB [_,_,_,_,_] [] [.nl KD VA,.nt (.a VB VC) KC,.ne (.a VB (.a VC KB)) VA] (.nt VD VE) [0,1,1,-1] rfl h3 h2 q)))
  refine or_n (Bw.mpr (qq [.nl KC (.a VA VB)] (.zl UC (.a (.c VA) (.c VB))) rfl (Wg h2))) ?_
  refine qm.gt (H9 (or_n (Bw.mpr (LU31 [.nl VA KO,.zt (.c VB) (.s (.c VA) (.c VC)),.zl UQ ZA] (.zl (.a (.c VC) (.c VB)) (.s ZA UL)) rfl hz hj a3)) (Ym ?_)))
  refine IH (pm 4 rfl) (by rw [yq];exact (kr [.nl VA KO,.zt (.c VB) (.s (.c VA) (.c VC)),.nl VD VB] (.nt VD KU) rfl hz hj a1)) ?_
  rw [yq]
  refine Ix (H9 ?_)
  by_cases he:(frs tbl ff j).length=nd
  ·refine x9 (zH [.ne VA VB] (.ze (.c VB) (.c VA)) [1,1] [1,-1] rfl he) ?_
   have hi:((ff:Nat):Int)+(j:Nat)=((ff+j:Nat):Int):=rfl
   rw [hi]
   have:=h1 (ff+j) (qq [] (.nl VA (.a VA VB)) rfl) a2 (Wg h2) (by rw [Hu];exact he)
   rw [Hu] at this
   exact this
  refine jJ (Or.elim (Wh he) (λZ=>(λz0=>(qM [.nt VA VB,.ze (.c VB) (.c VA)] .ff [0,1,1] rfl Z z0))) λZ=>(λz0=>(qM [.nt VA VB,.ze (.c VA) (.c VB)] .ff [0,1,-1] rfl Z z0))) ?_
  refine Ir qg gk u (pm 0 rfl) rfl (by rfl) (by rfl) ?_
  refine Ii (pm 3 rfl) (qq [] (.zl UA (.a (.c VA) (.c VB))) rfl) (qR [.nl VA KO,.zt (.c VB) (.s (.c VA) (.c VC))] (.zt (.a (.c VC) (.c VB)) UU) rfl hz hj) (qP hv) ?_
  refine Ix (H9 ?_)
  have e:=xh (tbl:=tbl) (ff:=ff) (m:=j)
  rw [jd hv (Wg h2)] at e
  have a7:ff+j+1=tbl.length->v≠0:=λq C=>by
   have:=jd hv (Wg h2)
   rw [show ff+j=tbl.length - 1 by exact (jA [.ne (.a (.a VA VB) KB) VC,.ne (.a VD KB) VC] (.ne (.a VA VB) VD) [1,-1,1] [1,1,-1] rfl q (yn (lg0 h3 rfl))),a0,decide_eq_true C] at this
   exact yQ this
  by_cases C:v=0
  ·refine x9 C ?_
   rw [decide_eq_true C,if_pos rfl] at e
   refine fcv gk u (pm 0 rfl) rfl ?_
   refine Ir qg gk (by assumption) (pm 0 rfl) rfl rfl rfl ?_
   refine jI gk u hD.kd ?_
   refine jK gk u hD.kd _ (.inr (.inr (.inr (.inl (qa rfl rfl))))) ?_
   refine Ix (H9 (jJ (λz0=>(LB31 [.nl VA KO,.zt (.c VB) (.s (.c VA) (.c VC)),.zl UQ ZA,.ze (.a (.c VC) (.c VB)) (.s ZA UI)] .ff [0,1,1,1,-1] rfl hz hj a3 z0)) ?_))
   refine Ir qg gk u (pm 0 rfl) rfl (by rfl) (by rfl) ?_
   refine jb.c xM gk u 12 (pm 0 rfl) rfl rfl ?_
   refine Ix (H9 ?_)
   have a4: ∀{A B:Prop},(∀c,Wk (λσ=>∃z,σ=⟨[some (.ref D.a),some (.int many),some (.bool er),some (.int 0),some (.int 2),some (.int (kTp D.kd - 16)),some (.int (nd:Nat)),some (.ref l),z,none,none,none],[D.ha (ff:Nat) tb false,D.ho d x,D.hc,DK.ht tb tbl,(l,.list (qd (frs tbl ff (j+1)))),(r,.rng (ff:Nat) (tbl.length:Nat) 1)]⟩/\(frs tbl ff (j+1)).length<=nd/\(ff+(j+1)=tbl.length->(frs tbl ff (j+1)).length<nd))
     ⟨[some (.ref D.a),some (.int many),some (.bool er),some (.int 0),some (.int 2),some (.int (kTp D.kd - 16)),some (.int (nd:Nat)),some (.ref l),some (.int ((ff+j:Nat):Int)),none,none,none],[(c,.list [.int ((ff+j:Nat):Int)]),D.ha (ff:Nat) tb false,D.ho d x,D.hc,DK.ht tb tbl,(l,.list (qd (frs tbl ff j)++[.int ((ff+j:Nat):Int)])),(r,.rng (ff:Nat) (tbl.length:Nat) 1)]⟩):=λ{A B} c=>by
    refine IY (H₂:=[D.ha (ff:Nat) tb false,D.ho d x,D.hc,DK.ht tb tbl,(l,.list (qd (frs tbl ff j)++[.int ((ff+j:Nat):Int)])),(r,.rng (ff:Nat) (tbl.length:Nat) 1)]) ((tk1 (tk1 (tk1 (tk1 (tk1 (tk1 .nil))))))) ?_
    exact qK _ (by rw [xk,e]) (by rw [e,yS];show _+1<=nd;exact (Or.elim (Wh he) (λg=>(qq [.nt VA VB] (.nl (.a VA KB) VB) rfl g)) λg=>(qM [.nl VA VB,.nt VB VA] (.nl (.a VA KB) VB) [0,1,1] rfl I g))) (λq=>absurd C (a7 (xJ [.ne (.a VA (.a VB KB)) VC] (.ne (.a (.a VA VB) KB) VC) [1,-1] [1,1] rfl q)))
   by_cases X:D.kd=12
   ·refine XT X ?_
    refine jb.c xM gk u 4080 (pm 0 rfl) rfl rfl ?_
    refine Ix (H9 (ZU (λz0=>(qQ [.nl VA KO,.zt (.c VB) (.s (.c VA) (.c VC)),.ze (.a (.c VC) (.c VB)) (.k 4080)] .ff [0,1,1,-1] rfl hz hj z0)) (qX ?_)))
    intro c
    refine zG.cat (uq4 (uq1 uq0)) (pm 0 rfl) (by rw [yq];show _+1<=_;exact (kr [.nl VA KO,.zt (.c VB) (.s (.c VA) (.c VC)),.nl VD VB] (.nl (.a VD KB) KT) rfl hz hj a1)) ?_
    exact a4 (A:=True) (B:=True) c
   ·refine ZU X (qX ?_)
    intro c
    refine zG.cat (uq4 (uq1 uq0)) (pm 0 rfl) (by rw [yq];show _+1<=_;exact (kr [.nl VA KO,.zt (.c VB) (.s (.c VA) (.c VC)),.nl VD VB] (.nl (.a VD KB) KT) rfl hz hj a1)) ?_
    exact a4 (A:=True) (B:=True) c
  ·refine jJ C ?_
   rw [decide_eq_false C,if_neg WY,Wq] at e
   dsimp only [nxt,Zq,turn]
   exact Wk.of (qK _ (by rw [e];rfl) (by rw [e];exact I) (λq=>by rw [e];exact (Or.elim (Wh he) (λg=>g) λg=>(qM [.nl VA VB,.nt VB VA] (.nt VA VB) [0,1,1] rfl I g))))
 ·(refine zk hi λz a5 I F=>?_;clear hi;subst a5)
  have F:=F (xJ [.ze (.c VA) (.s (.c VB) (.c VC))] (.ne (.a VC VA) VB) [1,-1] [1,1] rfl (yz (qq [.nt VA VB] (.zl UA (.s (.c VB) (.c VA))) rfl J)))
  rw [show (((tbl.length:Nat):Int) - (ff:Nat)).toNat=tbl.length - ff by exact (jA [.ze (.c VA) (.s (.c VB) (.c VC)),.ne (.a VD VC) VB] (.ne VA VD) [1,-1,1] [1,1,-1] rfl (yz (qq [.nt VA VB] (.zl UA (.s (.c VB) (.c VA))) rfl J)) (yn (yV J)))] at F |-
  exact h2 z F
theorem Qu (hk:k<590) (hD:DOk D low) (hb:Binds (g4 p) 284 xs kvs [(7,.ref D.a),(10,.int many),(212,.bool er)]) (hn: -(-many / 4)=(nd:Nat)) (hd:d.length<=10000)
  (hz:tbl.length<=100) (h3:3<=tbl.length) (I:ff<tbl.length) (u:jU tbl (tbl.length - 1)=false) (g:nd<=(frs tbl ff (tbl.length - ff)).length) (F: ∀c,2<=c->c<tbl.length->plc low c+4<=d.length):
  qs (g4 p) k none (.ref 284) xs kvs [D.ha (ff:Nat) tb false,D.ho d x,D.hc,DK.ht tb tbl]
   (λy H'=>∃i,ff<=i/\i<tbl.length/\2<=i/\(frs tbl ff (i - ff)).length=nd/\∃a x',y= .ref a/\H'=[D.ha (i:Nat) tb false,D.ho (if er then zq low (frs tbl ff (i - ff)) d nd else d) x',D.hc,DK.ht tb (qJ (kTp D.kd) (frs tbl ff (i - ff)) tbl nd),(a,.list (qd (frs tbl ff (i - ff))))]) (λoo oo=>False):=by
 refine Ip gk GF.f_PyFat_allocate_bytes (lk0 hk rfl) hb rfl rfl [some (.ref D.a),some (.int many),some (.bool er),none,none,none,none,none,none,none,none,none] rfl λf ok hh=>?_
 refine wX gk (by exact (lk0 hk rfl)) hD hn ok λl=>?_
 refine Ir qg gk ok (pm 1 rfl) rfl (by rfl) (by rfl) ?_
 refine Ir qg gk ok (pm 1 rfl) rfl (by rfl) (by rfl) ?_
 refine IH (pm 4 rfl) (by rw [yq];exact (ln0 hz rfl)) ?_
 refine IV λr=>?_
 rw [yq]
 refine kR gk hD hz h3 I u ok hh (λi h1 h2 h3 he=>?_) λz h=>absurd h (BK.mpr g)
 refine Ja gk (i:=i) (by exact (lk0 hk rfl)) hD (λc hc=>?_) hz hd (yX xO (by exact (kr [.nl VA KO,.nt VB VA,.ne (.a VC VD) VB] (.nl VC KO) rfl hz h2 (yn h1)))) ok hh λloc x'=>?_
 ·(refine qZ (kF hc) λh1 h2 C=>?_;refine qc C λh3 h4=>?_)
  exact qy h3 (LB [_,_,_,_,_] [] [.nt VA (.a VB VC),.nt VD VE,.ne (.a VC VB) VD] (.nt VA VE) [1,1,1,1] rfl h2 (by assumption) (yn (by assumption))) (F c h3 (LB [_,_,_,_,_] [] [.nt VA (.a VB VC),.nt VD VE,.ne (.a VC VB) VD] (.nt VA VE) [1,1,1,1] rfl h2 (by assumption) (yn (by assumption))))
 ·rw [he]
  exact xu (.refl _) (uY i h1 h2 h3 he (qU l x' rfl rfl))
theorem jy (hk:k<590) (hD:DOk D low) (hb:Binds (g4 p) 284 xs kvs [(7,.ref D.a),(10,.int many),(212,.bool er)]) (hn: -(-many / 4)=(nd:Nat)) (g:0<=many/\many<1000)
  (hz:tbl.length<=100) (h3:3<=tbl.length) (F:ff<tbl.length) (C:jU tbl (tbl.length - 1)=false) (u:(frs tbl ff (tbl.length - ff)).length<nd):
  qs (g4 p) k none (.ref 284) xs kvs [D.ha (ff:Nat) tb false,D.ho d x,D.hc,DK.ht tb tbl] (λy H'=>False) (λx' H'=>x'.cls= .ref 41/\H'=[D.ha (ff:Nat) tb false,D.ho d x,D.hc,DK.ht tb tbl]):=by
 refine Ip gk GF.f_PyFat_allocate_bytes (lk0 hk rfl) hb rfl rfl [some (.ref D.a),some (.int many),some (.bool er),none,none,none,none,none,none,none,none,none] rfl λf ok hh=>?_
 refine wX gk (by exact (lk0 hk rfl)) hD hn ok λl=>?_
 refine Ir qg gk ok (pm 1 rfl) rfl (by rfl) (by rfl) ?_
 refine Ir qg gk ok (pm 1 rfl) rfl (by rfl) (by rfl) ?_
 refine IH (pm 4 rfl) (by rw [yq];exact (ln0 hz rfl)) ?_
 refine IV λr=>?_
 rw [yq]
 refine kR gk hD hz h3 F C ok hh (λi h1 h2 h3 he=>absurd (vM (tbl:=tbl) (ff:=ff) (show i - ff<=tbl.length - ff by exact (LB [_,_,_,_,_] [] [.nt VA VB,.ne (.a VC VD) VA,.ne (.a VE VD) VB] (.nl VC VE) [1,1,1,-1] rfl h2 (yn h1) (yn (yV F))))) (Nat.not_le.mpr (qQ [.nt VA VB,.ne VC VB] (.nt VA VC) [1,1,-1] rfl u he))) λz h=>?_
 refine IH (pm 4 rfl) (by rw [yq];exact (LB [_,_] [_,_,_] [.ze (.n ZA) (.c VA),.zt ZB UP,.nt VB VA,.ze (.a (.m 4 ZA) ZC) (.n ZB),.zt ZC UF] (.nt VB KU) [4,-4,1,4,-1,1] rfl hn g.2 u (WG _ 4) (yZ _ (by decide)))) ?_
 rw [yq]
 have I:=xO (tbl:=tbl) (ff:=ff) (m:=tbl.length - ff)
 refine qZ (uM (p:=p)) λn1 n2 n3=>?_
 refine Ir qg gk (by assumption) (pm 0 rfl) rfl rfl rfl ?_
 refine IP (.inr (.inl (qa (by decide) (by decide)))) ?_
 refine qK _ rfl (by ((try simp only [Str.length_append]);rw [Wp];have e0:Str.empty.length=0:=rfl;exact (qq [.ne VA (.k 34),.ne VB KA] (.nl (.a VB VA) KT) rfl n1 e0))) ?_
 refine Xr.int (by exact qa (za [.zl UA ZA] (.zt (.n (.k 1000000000000000000)) ZA) rfl g.1) (za [.zt ZA UP] (.zt ZA (.k 1000000000000000000)) rfl g.2)) λs1 h1=>(qK s1 rfl (by ((try simp only [Str.length_append]);rw [Wp];have e0:Str.empty.length=0:=rfl;exact (qR [.ne VA (.k 34),.nl VB KO,.ne VC KA] (.nl (.a (.a VC VA) VB) KT) rfl n1 h1 e0))) ?_)
 refine qK _ rfl (by ((try simp only [Str.length_append]);rw [Wp];have e0:Str.empty.length=0:=rfl;exact (kr [.ne VA (.k 34),.ne VB KI,.nl VC KO,.ne VD KA] (.nl (.a (.a (.a VD VA) VC) VB) KT) rfl n1 n2 h1 e0))) ?_
 refine Xr.int (by exact qa (qD [] (.zt (.n (.k 1000000000000000000)) (.r (.c VA) 4)) rfl) (zN [.nl VA KO,.nl VB VC,.ne (.a VC VD) VA] (.zt (.r (.c VB) 4) (.k 1000000000000000000)) [1,4,4,4] rfl hz I (yn (yV F)))) λs2 h2=>(qK s2 rfl (by ((try simp only [Str.length_append]);rw [Wp];have e0:Str.empty.length=0:=rfl;exact (LB [_,_,_,_,_] [] [.ne VA (.k 34),.ne VB KI,.nl VC KO,.nl VD KO,.ne VE KA] (.nl (.a (.a (.a (.a VE VA) VC) VB) VD) KT) [1,1,1,1,1,1] rfl n1 n2 h1 h2 e0))) ?_)
 refine qK _ rfl (by ((try simp only [Str.length_append]);rw [Wp];have e0:Str.empty.length=0:=rfl;exact (LB [_,_,_,_,_,_] [] [.ne VA (.k 34),.ne VB KI,.ne VC (.k 12),.nl VD KO,.nl VE KO,.ne VF KA] (.nl (.a (.a (.a (.a (.a VF VA) VD) VB) VE) VC) KT) [1,1,1,1,1,1,1] rfl n1 n2 n3 h1 h2 e0))) ?_
 refine jb.o xM gk ok 28 rfl ?_
 exact UX gk ok hh (by exact (lk1 hk rfl)) λe=>(qK _ (.keep (.keep (.keep (.keep (Sub.none _))))) rfl rfl)
theorem XY (hk:k<590) (hb:Binds (g4 p) 284 xs kvs [(7,.ref D.a),(10,.int many),(212,.bool er)]):
  qs (g4 p) k none (.ref 284) xs kvs [D.ha ff tb true] (λy H'=>False) (λx' H'=>x'.cls= .ref 41/\H'=[D.ha ff tb true]):=by
 refine Ip gk GF.f_PyFat_allocate_bytes (lk0 hk rfl) hb rfl rfl [some (.ref D.a),some (.int many),some (.bool er),none,none,none,none,none,none,none,none,none] rfl λf ok hh=>?_
 refine Iu gk ok GF.f_init_check (xt gk (by exact (lk1 hk rfl))) ((tk0 .nil)) ?_
 refine qb.fnE gk ok GF.f_readonly_check (hh ▸ Zn gk (by exact (lk1 hk rfl))) ((tk0 .nil)) λe=>?_
 exact qK _ (.refl _) rfl rfl
end
noncomputable def wrTo (low:Nat) (cs:List Nat) (dat d:List UInt8) (j:Nat):List UInt8:=Fz d (λj r=>wr r (plc low (cs.getD j 0)) ((dat.drop (4*j)).take 4)) j
theorem wrTo_c:wrTo low cs dat d (j+1)=wr (wrTo low cs dat d j) (plc low (cs.getD j 0)) ((dat.drop (4*j)).take 4):=rfl
theorem kY {l:List UInt8}:((l.drop a).take 4).length<=4:=by rw [Wx];exact (ll0 (Ft _ _) rfl)
theorem YA:(∀i<j,plc low (cs.getD i 0)+4<=d.length)->(wrTo low cs dat d j).length=d.length:=by
 induction j with
 |zero=>exact λoo=>rfl
 |succ j ih=>
  intro h
  have ih:=ih λi hi=>h i (Nat.lt_succ_of_lt hi)
  have h4:=kY (l:=dat) (a:=4*j)
  have:=h j (Hp _)
  rw [wrTo_c,Yw,ih]
  rw [ih];exact (qR [.nl VA KF,.nl (.a VB KF) VC] (.nl (.a VB VA) VC) rfl h4 this)
section
variable {p:GP} {mg mb:Str->Option yr} (gk:GOk (g4 p) mg mb) {D:DK} {tb:yu} {tbl:List Int} {low:Nat}
include gk
theorem vw (hk:k<700) (hD:DOk D low) (h2:2<=cl) (h1:plc low cl+c.length<=d.length) (hz:d.length<=10000):
  qs (g4 p) k hd (.ref 246) [.ref D.a,.bytes c,.int (D.at (cl:Nat))] [] [D.ha ff tb false,D.ho d x] (λy H'=>y= .none/\∃x',H'=[D.ho (wr d (plc low cl) c) x',D.ha ff tb false]) (λoo oo=>False):=by
 have e:=hD.pl cl h2
 refine (uB gk hk (by rw [e];exact (yt _)) (by rw [e];exact (qR [.nl (.a VA VB) VC] (.zl (.c VA) (.c VC)) rfl h1)) (by exact (qQ [.nl (.a VA VB) VC,.nl VC KR] (.nl (.a VC VB) KS) [1,1,2] rfl h1 hz))).mono (λx H zf=>zf.elim λh1 h2=>(qa h1 (qx ((plc low cl+c.length:Nat):Int) ?_))) λoo oo h=>h
 rw [h2,e]
 rfl
theorem Qs (hk:k<590) (hD:DOk D low) (hc:Ch tbl m cs) (hm:k9 D.kd m) (hz:tbl.length<=100) (h2: ∀c∈cs,2<=c) {st:Nat} (ah:cs[0]? =some st) (a6:cs.length<=100) (hn:1<=need/\need<=cs.length) (hL:dat.length<=4*need) (a8:4*(need - 1)<dat.length\/need=1)
  (hd:d.length<=10000) (a5: ∀c,2<=c->c<tbl.length->plc low c+4<=d.length) (ok:FOk (g4 p) f) (hh:f.hd=none)
  (h: ∀loc x',Q .next ⟨loc,[D.ho (wrTo low cs dat d need) x',D.ha ff tb false,D.hc,DK.ht tb tbl]⟩) (hT:qp [D.ha ff tb false,D.ho d x,D.hc,DK.ht tb tbl] H R0):
  wSs (g4 p) f (k+3) (b_PyFat_write_data_to_cluster.drop 8) Q EE ⟨[some (.ref D.a),some (.bytes dat),some (.int (st:Nat)),z3,z4,z5,z6,z7,z8,z9,z10,none,none,none],H⟩:=by
 have aj: ∀q∈[D.ha ff tb false,D.ho d x,D.hc,DK.ht tb tbl],q∈H:=λq hq=>hT.perm.mem_iff.mpr (yA _ hq)
 refine λa7=>?_
 refine IZ qg gk ok (C:=380) (aj _ (.head _)) (fa:=356) rfl rfl ?_
 refine zw.wk hT ?_
 refine zw.of gk ok hh (by show k+3<1000;exact (lk1 hk rfl)) GF.gen rfl (Im (i:=7) (j:=247) GF.b_gen rfl) rfl rfl (Qf gk (tb:=tb) (by exact (lk2 hk rfl)) hD.kd hc hm hz h2 ah) a7
  (λj σ=>∃z8 a2 a1 x',j<need/\σ=⟨[some (.ref D.a),some (.bytes dat),some (.int (st:Nat)),z3,z4,z5,z6,z7,z8,z9,z10,some (.int ((4*j:Nat):Int)),a2,a1],[D.ha ff tb false,D.ho (wrTo low cs dat d j) x',D.hc,DK.ht tb tbl]⟩) (λj σ hi=>?_) (XP _ _ _ x (lg1 hn.1 rfl) rfl) (λgs q j y σ I hj hx hi=>?_) (λoo σ hi=>?_) (λe=>yQ e)
 ·(refine wh hi λoo oo oo oo oo ag=>?_;clear hi;subst ag)
  exact qU _ _ (.head _) (.tail _ (.tail _ (.tail _ (.head _))))
 ·(refine wh hi λz8 a2 a1 x' X af=>?_;clear hi;subst af)
  (refine qf hx λc Z ae=>?_;clear hx;subst ae)
  have F:GOk (g4 {p with gs:=gs}) mg mb:=gk.gen
  change FOk (g4 {p with gs:=gs}) (f.at q) at I
  have ai:c<tbl.length:=by
   rcases hc.at Z with ⟨d,_,e⟩|⟨_,e⟩<;>exact qw e
  have a9:=h2 c (yC Z)
  have a0:(wrTo low cs dat d j).length=d.length:=YA λi hi=>by
   obtain ⟨c',a3⟩: ∃c',cs[i]? =some c':=(qx _ (yw (show i<cs.length by exact (qR [.nt VA VB,.nt VC VA] (.nt VC VB) rfl hj hi))))
   rw [zd a3]
   refine a5 c' (h2 c' (yC a3)) ?_
   rcases hc.at a3 with ⟨d,_,e⟩|⟨_,e⟩<;>exact qw e
  have h4:=kY (l:=dat) (a:=4*j)
  have hp:=a5 c a9 ai
  refine IZ qg F I (C:=380) (pm 0 rfl) (fa:=349) rfl rfl ?_
  refine Iu F I GF.f_PyFat_get_data_cluster_address (ZP F (by exact (lk1 hk rfl)) (c:=(c:Nat))) ((tk0 (tk1 .nil))) ?_
  refine Ir qg F I (pm 0 rfl) rfl (by rfl) (by rfl) ?_
  refine zG.add ?_
  refine IZ qg F I (C:=380) (pm 0 rfl) (fa:=246) rfl rfl ?_
  refine qv.cutBE (c:=(dat.drop (4*j)).take 4) (4*j) 4 rfl rfl (qQ [.nl VA KO,.nl VB VA,.nl VC (.m 4 VB)] (.nl VC KT) [1,4,4,1] rfl a6 hn.2 hL) rfl ?_
  refine IK F I GF.f_PyFat_write_data_to_address (vw F (by exact (lk1 hk rfl)) hD (d:=wrTo low cs dat d j) (x:=x') a9 (by rw [a0];exact (qR [.nl VA KF,.nl (.a VB KF) VC] (.nl (.a VB VA) VC) rfl h4 hp)) (by rw [a0];exact hd)) ((tk0 (tk1 .nil))) (λy H' h'=>?_) λoo oo h=>h.elim
  (refine qc h' λac aa=>?_;refine qA aa λa4 ab=>?_;clear h';subst ac;subst ab)
  refine IW (qQ [.nl VA KO,.nl VB VA,.nl VC (.m 4 VB)] (.nl VC KT) [1,4,4,1] rfl a6 hn.2 hL) ?_
  refine qm.ge (H9 ?_)
  by_cases u:j+1=need
  ·refine x9 (qQ [.nl VA (.m 4 VB),.ne (.a VC KB) VB] (.zl (.c VA) (.a (.c (.m 4 VC)) UF)) [1,1,-4] rfl hL u) ?_
   have:=h
   rw [<- u,wrTo_c,zd Z] at this
   exact this _ a4
  ·refine jJ (Or.elim a8 (λJ=>(Or.elim (Wh u) (λg=>(WM.mpr (zN [.nt (.m 4 VA) VB,.nt (.a VC KB) VD,.ne (.a VA KB) VD] (.zt (.a (.c (.m 4 VC)) UF) (.c VB)) [1,1,4,-4] rfl J g (yn hn.1)))) λg=>(WM.mpr (qQ [.nt VA VB,.nt VB (.a VA KB)] (.zt (.a (.c (.m 4 VA)) UF) (.c VC)) [0,1,1] rfl X g)))) λJ=>(Or.elim (Wh u) (λg=>(WM.mpr (qQ [.ne VA KB,.nt (.a VB KB) VA] (.zt (.a (.c (.m 4 VB)) UF) (.c VC)) [0,1,1] rfl J g))) λg=>(WM.mpr (qQ [.nt VA VB,.nt VB (.a VA KB)] (.zt (.a (.c (.m 4 VA)) UF) (.c VC)) [0,1,1] rfl X g)))) ?_
   dsimp only [nxt,wSs,turn]
   refine IY (P:=λσ=>∃z8 a2 a1 x',j+1<need/\σ=_) (H₂:=[D.ha ff tb false,D.ho (wrTo low cs dat d (j+1)) a4,D.hc,DK.ht tb tbl]) (by rw [wrTo_c,zd Z];exact (tk1 (tk0 (tk0 (tk0 .nil))))) ?_
   exact XP _ _ _ _ (Or.elim a8 (λJ=>(Or.elim (Wh u) (λg=>g) λg=>(qM [.nt VA VB,.nt VB (.a VA KB)] (.nt (.a VA KB) VB) [0,1,1] rfl X g))) λJ=>(Or.elim (Wh u) (λg=>g) λg=>(qM [.nt VA VB,.nt VB (.a VA KB)] (.nt (.a VA KB) VB) [0,1,1] rfl X g))) rfl
 ·refine wh hi λoo oo oo oo h oo=>?_
  exact absurd h (BK.mpr hn.2)
theorem j4 (hk:k<590) (hD:DOk D low) (hc:Ch tbl m cs) (hm:k9 D.kd m) (hz:tbl.length<=100) (h2: ∀c∈cs,2<=c) {st:Nat} (I:cs[0]? =some st)
   (ok:FOk (g4 p) f) (hh:f.hd=none)
  (h: ∀jj c,1<=jj->jj<=cs.length->cs[jj - 1]? =some c->(many<=4*jj\/jj=cs.length)->∀H',qp [D.ha ff tb false,D.ho d x,D.hc,DK.ht tb tbl] H' []->wSs (g4 p) f (k+3) (b_PyFat_write_data_to_cluster.drop 6) Q EE ⟨[some (.ref D.a),some (.bytes dat),some (.int (st:Nat)),z3,z4,some (.int (many:Nat)),some (.int ((4*jj:Nat):Int)),some (.int (c:Nat)),some (.int (c:Nat)),none,none,none,none,none],H'⟩) (hT:qp [D.ha ff tb false,D.ho d x,D.hc,DK.ht tb tbl] H R0):
  wSs (g4 p) f (k+3) (b_PyFat_write_data_to_cluster.drop 5) Q EE ⟨[some (.ref D.a),some (.bytes dat),some (.int (st:Nat)),z3,z4,some (.int (many:Nat)),some (.int 0),some .none,none,none,none,none,none,none],H⟩:=by
 have a3: ∀q∈[D.ha ff tb false,D.ho d x,D.hc,DK.ht tb tbl],q∈H:=λq hq=>hT.perm.mem_iff.mpr (yA _ hq)
 refine λX=>?_
 refine IZ qg gk ok (C:=380) (a3 _ (.head _)) (fa:=356) rfl rfl ?_
 refine zw.wk hT ?_
 refine zw.of gk ok hh (by show k+3<1000;exact (lk1 hk rfl)) GF.gen rfl (Im (i:=7) (j:=247) GF.b_gen rfl) rfl rfl (Qf gk (tb:=tb) (by exact (lk2 hk rfl)) hD.kd hc hm hz h2 I) X
  (λj σ=>∃z7 z8,(j=0\/4*j<many/\∃c:Nat,cs[j - 1]? =some c/\z7=some (.int (c:Nat))/\z8=some (.int (c:Nat)))/\σ=⟨[some (.ref D.a),some (.bytes dat),some (.int (st:Nat)),z3,z4,some (.int (many:Nat)),some (.int ((4*j:Nat):Int)),z7,z8,none,none,none,none,none],[D.ha ff tb false,D.ho d x,D.hc,DK.ht tb tbl]⟩) (λj σ hi=>?_) (qU (some .none) none (.inl rfl) rfl) (λgs q j y σ F hj hx hi=>?_) (λoo σ hi=>?_) (λe=>yQ e)
 ·(refine qB hi λoo oo oo a2=>?_;clear hi;subst a2)
  exact qU _ _ (.head _) (.tail _ (.tail _ (.tail _ (.head _))))
 ·(refine qB hi λz7 z8 J a1=>?_;clear hi;subst a1)
  (refine qf hx λc u a0=>?_;clear hx;subst a0)
  have a4:GOk (g4 {p with gs:=gs}) mg mb:=gk.gen
  change FOk (g4 {p with gs:=gs}) (f.at q) at F
  refine Ir qg a4 F (pm 0 rfl) rfl (by rfl) (by rfl) ?_
  refine zG.add ?_
  refine qm.ge (H9 ?_)
  rw [show ((4*j:Nat):Int)+4=((4*(j+1):Nat):Int) by exact (qD [] (.ze (.a (.c (.m 4 VA)) UF) (.c (.m 4 (.a VA KB)))) rfl)]
  by_cases g:many<=4*(j+1)
  ·refine x9 (qq [.nl VA (.m 4 (.a VB KB))] (.zl (.c VA) (.c (.m 4 (.a VB KB)))) rfl g) ?_
   exact h (j+1) c (by exact (qD [] (.nl KB (.a VA KB)) rfl)) hj u (.inl g) _ ((tk0 (tk0 (tk0 (tk0 .nil)))))
  ·refine jJ (WM.mpr (qq [.nt (.m 4 (.a VA KB)) VB] (.zt (.c (.m 4 (.a VA KB))) (.c VB)) rfl (WC g))) ?_
   dsimp only [nxt,wSs,turn]
   exact Wk.of (qU _ _ (.inr (qa (WC g) (qK c u rfl rfl))) rfl)
 ·(refine qB hi λz7 z8 J Z=>?_;clear hi;subst Z)
  have hl:=qw I
  rcases J with h0|⟨h4,c,u,rfl,rfl⟩
  ·exfalso;exact (zI [.nt KA VA,.ne VA KA] .ff [0,1,1] rfl hl h0)
  ·exact h cs.length c hl (yM _) u (.inr rfl) _ ((tk0 (tk0 (tk0 (tk0 .nil)))))
end
structure jP (many need:Nat):Prop where
 one:1<=need
 le:many<=4*need
 lt:4*(need - 1)<many\/need=1
noncomputable def ww (er:Bool) (need:Nat) (new:List UInt8):List UInt8:=if er then new++Wo (4*need - new.length) 0 else new
theorem Yc (h:jP new.length need):(ww er need new).length<=4*need/\(4*(need - 1)<(ww er need new).length\/need=1):=by
 have h1:=h.one;have h2:=h.le;have h3:=h.lt
 unfold ww
 split
 ·rw [yS,BZ];exact qa (qR [.ne (.a VA VB) (.m 4 VC)] (.nl (.a VB VA) (.m 4 VC)) rfl (yn h2)) (.inl (zN [.ne (.a VA VB) (.m 4 VC),.ne (.a VD KB) VC] (.nt (.m 4 VD) (.a VB VA)) [1,-1,4] rfl (yn h2) (yn h1)))
 ·exact qa h2 h3
theorem Y4:(Wo k [(0:UInt8)]).flatten=Wo k 0:=by
 induction k with
 |zero=>rfl
 |succ k ih=>rw [BG,Wa,ih];rfl
section
variable {p:GP} {mg mb:Str->Option yr} (gk:GOk (g4 p) mg mb) {D:DK} {tb:yu} {tbl:List Int} {low:Nat}
include gk
theorem QD (hk:k<590) (hD:DOk D low) (hc:Ch tbl m cs) (hm:k9 D.kd m) (hz:tbl.length<=100) (h2: ∀c∈cs,2<=c) {st:Nat} (u:cs[0]? =some st) (g:cs.length<=100) (hN:jP new.length need) (hn:need<=cs.length)
  (hd:d.length<=10000) (C: ∀c,2<=c->c<tbl.length->plc low c+4<=d.length) (ok:FOk (g4 p) f) (hh:f.hd=none)
  (h: ∀loc x',Q .next ⟨loc,[D.ho (wrTo low cs (ww er need new) d need) x',D.ha ff tb false,D.hc,DK.ht tb tbl]⟩) (hT:qp [D.ha ff tb false,D.ho d x,D.hc,DK.ht tb tbl] H R0):
  wSs (g4 p) f (k+3) (b_PyFat_write_data_to_cluster.drop 7) Q EE ⟨[some (.ref D.a),some (.bytes new),some (.int (st:Nat)),z3,some (.bool er),some (.int (new.length:Nat)),z6,z7,z8,z9,none,none,none,none],H⟩:=by
 have F: ∀q∈[D.ha ff tb false,D.ho d x,D.hc,DK.ht tb tbl],q∈H:=λq hq=>hT.perm.mem_iff.mpr (yA _ hq)
 refine qc (Yc (er:=er) hN) λp1 p2=>?_
 have h1:=hN.one;have h3:=hN.le;have h4:=hN.lt
 refine H9 ?_
 cases er with
 |false=>
  refine qX ?_
  exact Qs gk hk hD hc hm hz h2 u g (qa h1 hn) p1 p2 hd C ok hh h hT
 |true=>
  refine ke ?_
  refine IX ?_
  refine Ir qg gk ok (F _ (.head _)) rfl (by rfl) (by rfl) ?_
  refine IQ (by decide) (.inl (by decide)) ?_
  refine IX ?_
  refine qb.max hh ?_
  rw [show max 1 (-(-((new.length:Nat):Int) / 4))=((need:Nat):Int) by exact (Or.elim h4 (λw8=>(LA [_,_,_] [_,_,_] [.nl VA (.m 4 VB),.nt (.m 4 VC) VA,.ne (.a VC KB) VB,.ze ZA (.n ZB),.ze (.a (.m 4 ZB) ZC) (.n (.c VA)),.zl UA ZC,.zt ZC UF] (.ze ZA (.c VB)) [4,0,1,-4,-4,1,1,0] [4,1,0,0,4,-1,0,1] rfl h3 w8 (yn h1) (WS (QH [.zl UB ZA,.ze ZA (.n ZB)] (.zl UB (.n ZB)) rfl (Fu _ _) (WS (LB [_,_] [_,_] [.nt (.m 4 VA) VB,.ze (.a (.m 4 ZA) ZB) (.n (.c VB)),.zl UA ZB] (.zl UB (.n ZA)) [4,1,1,1] rfl w8 (WG _ 4) (Wj _ (by decide)))))) (WG _ 4) (Wj _ (by decide)) (yZ _ (by decide)))) λw8=>(Yi [.ne VA KB,.ze ZA UB] (.ze ZA (.c VA)) [1,1,-1] [1,-1,1] rfl w8 (Fv (QH [.zl (.n ZA) ZB,.ze ZB UB] (.zl (.n ZA) UB) rfl (Int.le_max_right _ _) (Fv (LB [_,_] [_,_] [.nl VA (.m 4 VB),.ne VB KB,.ze (.a (.m 4 ZA) ZB) (.n (.c VA)),.zt ZB UF] (.zl (.n ZA) UB) [4,1,4,-1,1] rfl h3 w8 (WG _ 4) (yZ _ (by decide))))))))]
  refine Ir qg gk ok (F _ (.head _)) rfl (by rfl) (by rfl) ?_
  refine zG.mul (.inr (.inl (qa (by decide) (by decide)))) ?_
  refine IB ?_
  refine qo.repBE (c:=Wo (4*need - new.length) 0) (by simp) (by simp) (qq [.nl VA (.m 4 VB)] (.zl (.n (.k 1048576)) (.s (.r (.c VB) 4) (.c VA))) rfl h3) (qQ [.nl VA KO,.nl VB VA] (.zl (.s (.r (.c VB) 4) (.c VC)) (.k 1048576)) [1,4,4] rfl g hn) (by rw [show (((need:Nat):Int)*4 - (new.length:Nat)).toNat=4*need - new.length by exact (jA [.ze (.c VA) (.s (.r (.c VB) 4) (.c VC)),.ne (.a VD VC) (.m 4 VB)] (.ne VA VD) [1,-1,1] [1,1,-1] rfl (yz (qq [.nl VA (.m 4 VB)] (.zl UA (.s (.r (.c VB) 4) (.c VA))) rfl h3)) (yn h3))];exact Y4) ?_
  refine zG.addB (by rw [BZ];exact (zN [.nl VA KO,.nl VB VA,.ne (.a VC VD) (.m 4 VB)] (.nl (.a VD VC) KT) [1,4,4,1] rfl g hn (yn h3))) ?_
  exact Qs gk hk hD hc hm hz h2 u g (qa h1 hn) p1 p2 hd C ok hh h hT
theorem xN (hk:k<590) {st:V} (hL:new.length<=10000) (ok:FOk (g4 p) f)
  (h:wSs (g4 p) f (k+3) (b_PyFat_write_data_to_cluster.drop 5) Q EE ⟨[some (.ref D.a),some (.bytes new),some st,z3,z4,some (.int (new.length:Nat)),some (.int 0),some .none,none,none,none,none,none,none],D.ha ff tb false::H₂⟩):
  wSs (g4 p) f (k+3) b_PyFat_write_data_to_cluster Q EE ⟨[some (.ref D.a),some (.bytes new),some st,z3,z4,none,none,none,none,none,none,none,none,none],D.ha ff tb false::H₂⟩:=by
 refine Iu gk ok GF.f_init_check (xt gk (by exact (lk1 hk rfl))) (.cons .head .nil) ?_
 refine Iu gk ok GF.f_readonly_check (kU gk (by exact (lk1 hk rfl))) (.cons .head .nil) ?_
 refine IW (ll0 hL rfl) ?_
 exact h
theorem jm {st:V}:Binds (g4 p) 261 [.ref a,.bytes new,st,.bool ex,.bool er] [] [(7,.ref a),(4,.bytes new),(41,st),(215,.bool ex),(212,.bool er)]:=λvs kw hv hk=>by
 (refine qk hv λv1 oo a0 h1 F=>?_;refine qk F λv2 oo Z h2 C=>?_;refine qk C λv3 oo X h3 u=>?_;refine qk u λv4 oo J h4 g=>?_;refine qk g λv5 oo I h5 e=>?_;clear hv;subst a0;subst Z;subst X;subst J;subst I)
 obtain rfl:=e;obtain rfl:=hk
 exact qj _ (GF.b_PyFat_write_data_to_cluster v1 v2 v3 v4 v5) (.cons (qy (yL.mp rfl) rfl h1) (.cons (qy (yL.mp rfl) rfl h2) (.cons (qy (yL.mp rfl) rfl h3) (.cons (qy (yL.mp rfl) rfl h4) (.cons (qy (yL.mp rfl) rfl h5) .nil)))))
theorem J5 (hk:k<590) (hD:DOk D low) (hc:Ch tbl m cs) (hm:k9 D.kd m) (hz:tbl.length<=100) (h2: ∀c∈cs,2<=c) {st:Nat} (g:cs[0]? =some st) (u:cs.length<=100) (hN:jP new.length need) (hn:need<=cs.length)
  (hd:d.length<=10000) (C: ∀c,2<=c->c<tbl.length->plc low c+4<=d.length):
  qs (g4 p) k none (.ref 261) [.ref D.a,.bytes new,.int (st:Nat),.bool ex,.bool er] [] [D.ha ff tb false,D.ho d x,D.hc,DK.ht tb tbl]
   (λy H'=>y= .none/\∃x',H'=[D.ho (wrTo low cs (ww er need new) d need) x',D.ha ff tb false,D.hc,DK.ht tb tbl]) (λoo oo=>False):=by
 have h1:=hN.one;have h3:=hN.le
 refine Ip gk GF.f_PyFat_write_data_to_cluster (lk0 hk rfl) (jm gk) rfl rfl [some (.ref D.a),some (.bytes new),some (.int (st:Nat)),some (.bool ex),some (.bool er),none,none,none,none,none,none,none,none,none] rfl λf ok hh=>?_
 refine xN gk hk (by exact (qQ [.nl VA KO,.nl VB VA,.nl VC (.m 4 VB)] (.nl VC KR) [1,4,4,1] rfl u hn h3)) ok ?_
 refine j4 gk hk hD hc hm hz h2 g (many:=new.length) (d:=d) (x:=x) (ff:=ff) ok hh (λjj c j1 j2 I F H' t=>?_) ((tk0 (tk0 (tk0 (tk0 .nil)))))
 refine qm.gt (H9 (jJ (by rcases F with h|h<;>(first|lia|omega)) ?_))
 exact QD gk hk hD hc hm hz h2 g u hN hn hd C ok hh (λloc x'=>zp (.refl _) ⟨rfl,x',rfl⟩) t
end
theorem km:Ch tbl m cs↔cs≠[]/\∀k c:Nat,cs[k]? =some c->tbl[c]? =some (nx m cs k):=by
 induction cs with
 |nil=>exact ⟨λh=>h.elim,λh=>(h.1 rfl).elim⟩
 |cons a r ih=>
  cases r with
  |nil=>
   refine ⟨λh=>(qa (by simp) (λk c e=>?_)),λh=>h.2 0 a rfl⟩
   cases k with
   |zero=>cases e;exact h
   |succ k=>cases e
  |cons b r=>
   refine ⟨λh=>(qa (by simp) (λk c e=>?_)),λh=>(qa (h.2 0 a rfl) (ih.mpr (qa (by simp) (λk c e=>h.2 (k+1) c e))))⟩
   cases k with
   |zero=>cases e;exact h.1
   |succ k=>exact (ih.mp h.2).2 k c e
theorem Qe (h:c ∉ fl):j<=fl.length->(qJ top fl t j)[c]? =t[c]? :=by
 induction j with
 |zero=>
  intro _
  exact rfl
 |succ j ih=>
  intro hj
  have g:j<fl.length:=hj
  rw [jh,WO,ih (yV g)]
  intro e
  apply h
  rw [We,yw g] at e
  exact e ▸ BJ _
theorem Z6 (nd:fl.Nodup) (hl: ∀c∈fl,c<t.length) (h:fl[i]? =some c):j<=fl.length->i<j->(qJ top fl t j)[c]? =some (nx top fl i):=by
 induction j with
 |zero=>
  intro _ hi
  exact absurd hi (DJ _)
 |succ j ih=>
  intro hj hi
  have g:j<fl.length:=hj
  have hc:=hl c (yC h)
  by_cases e:i=j
  ·subst e
   rw [jh,zd h,Df (by rw [zo];exact hc)]
  ·rw [jh,WO,ih (yV g) (by (first|lia|omega))]
   intro q
   rw [zd (yw g)] at q
   exact e (ZG nd h (by rw [yw g,q]))
theorem Q8:(frs tbl ff m).Nodup:=List.Nodup.sublist H3 List.nodup_range'
theorem Y0 (hc:Ch tbl m cs) (nc:cs.Nodup) (nf:fl.Nodup) (hd: ∀c∈cs,c ∉ fl) (hl: ∀c∈fl,c<tbl.length) (u:cs[cs.length - 1]? =some last) (hf:fl≠[]):
  Ch ((qJ top fl tbl fl.length).set last ((fl.getD 0 0:Nat):Int)) top (cs++fl):=by
 refine qc (km.mp hc) λc1 c2=>?_
 have I:last∈cs:=yC u
 have F:last<tbl.length:=qw (c2 _ _ u)
 have g:0<cs.length:=WU.mpr c1
 obtain ⟨f0,fr,rfl⟩: ∃a r,fl=a::r:=List.exists_cons_of_ne_nil hf
 refine km.mpr (qa (by simp [c1]) (λk c e=>?_))
 by_cases hk:k<cs.length
 ·rw [Ww hk] at e
  have X:c∈cs:=yC e
  by_cases C:k=cs.length - 1
  ·subst C
   rw [u] at e
   obtain rfl:=Wc.inj e
   rw [Df (by rw [zo];exact F)]
   unfold nx
   rw [Wn (by exact (qM [.ne (.a VA KB) VB] (.nl VB (.a VA KB)) [1,-1] rfl (yn (qD [.nt KA VA] (.nl KB VA) rfl g)))),show cs.length - 1+1 - cs.length=0 by exact (xJ [.ne (.a VA KB) VB,.ne (.a VC VB) (.a VA KB)] (.ne VC KA) [1,0,0] [1,1,1] rfl (yn (qD [.nt KA VA] (.nl KB VA) rfl g)) (yn (qM [.ne (.a VA KB) VB] (.nl VB (.a VA KB)) [1,-1] rfl (yn (qD [.nt KA VA] (.nl KB VA) rfl g)))))]
   rfl
  ·rw [WO,Qe (hd c X) (yM _),c2 k c e]
   ·congr 1
    unfold nx
    rw [Ww (by exact (Or.elim (Wh C) (λw3=>(qR [.nt VA VB,.ne (.a VB KB) VC] (.nt (.a VA KB) VC) rfl w3 (yn (qD [.nt KA VA] (.nl KB VA) rfl g)))) λw3=>(qQ [.nt VA VB,.nt VC VA,.ne (.a VC KB) VB] (.nt (.a VA KB) VB) [0,1,1,-1] rfl hk w3 (yn (qD [.nt KA VA] (.nl KB VA) rfl g))))),yw (show k+1<cs.length by exact (Or.elim (Wh C) (λw3=>(qR [.nt VA VB,.ne (.a VB KB) VC] (.nt (.a VA KB) VC) rfl w3 (yn (qD [.nt KA VA] (.nl KB VA) rfl g)))) λw3=>(qQ [.nt VA VB,.nt VC VA,.ne (.a VC KB) VB] (.nt (.a VA KB) VB) [0,1,1,-1] rfl hk w3 (yn (qD [.nt KA VA] (.nl KB VA) rfl g)))))]
   ·intro q
    subst q
    exact C (ZG nc e u)
 ·rw [Wn (by exact (Wg hk))] at e
  have J:c∈f0::fr:=yC e
  rw [WO (show last≠c from λq=>hd last I (by rw [q];exact J)),Z6 nf hl e (yM _) (qw e)]
  congr 1
  unfold nx
  rw [Wn (by exact (qq [.nl VA VB] (.nl VA (.a VB KB)) rfl (Wg hk))),show k+1 - cs.length=k - cs.length+1 by exact (jA [.ne (.a VA VB) (.a VC KB),.ne (.a VD VB) VC] (.ne VA (.a VD KB)) [1,-1,1] [1,1,-1] rfl (yn (qq [.nl VA VB] (.nl VA (.a VB KB)) rfl (Wg hk))) (yn (Wg hk)))]
theorem qs.hd0 (hh:hd=none) (h:qs g k none fv xs kvs H Q E):qs g k hd fv xs kvs H Q E:=by subst hh;exact h
section
variable {p:GP} {mg mb:Str->Option yr} (gk:GOk (g4 p) mg mb) {D:DK} {tb:yu} {tbl:List Int} {low:Nat}
include gk
theorem wW:Binds (g4 p) 284 [.ref a,.int m] [(212,.bool er)] [(7,.ref a),(10,.int m),(212,.bool er)]:=λvs kw hv hk=>by
 (refine qk hv λv1 oo J h1 F=>?_;refine qk F λv2 oo I h2 e=>?_;clear hv;subst J;subst I)
 (refine qk hk λC oo u g e'=>?_;clear hk;obtain ⟨kn,v3⟩:=C;subst u;obtain ⟨_,h3,h4⟩:=g)
 obtain rfl:=e;obtain rfl:=e';cases h3
 exact qj _ (GF.b_allocE v1 v2 v3) (.cons (qy (yL.mp rfl) rfl h1) (.cons (qy (yL.mp rfl) rfl h2) (.cons (qy (yL.mp rfl) rfl h4) .nil)))
theorem UM (hk:k<580) (hD:DOk D low) (hc:Ch tbl m cs) (hm:k9 D.kd m) (hz:tbl.length<=100) (h2: ∀c∈cs,2<=c) (hv: ∀c∈cs,tbl[c]?≠some 0) (nc:cs.Nodup) {st:Nat} (J:cs[0]? =some st) (hN:jP new.length (cs.length+more)) (a5:cs.length+more<=100) (u:1<=more)
  (hd:d.length<=10000) (Z: ∀c,2<=c->c<tbl.length->plc low c+4<=d.length) (h3:3<=tbl.length) (ag:ff<tbl.length) (a0:jU tbl (tbl.length - 1)=false) (X:more<=(frs tbl ff (tbl.length - ff)).length):
  qs (g4 p) k none (.ref 261) [.ref D.a,.bytes new,.int (st:Nat),.bool true,.bool er] [] [D.ha (ff:Nat) tb false,D.ho d x,D.hc,DK.ht tb tbl]
   (λy H'=>y= .none/\∃i last fl,cs[cs.length - 1]? =some last/\ff<=i/\i<tbl.length/\2<=i/\fl=frs tbl ff (i - ff)/\fl.length=more/\∃x',H'=[D.ho (wrTo low (cs++fl) (ww er (cs.length+more) new) (if er then zq low fl d more else d) (cs.length+more)) x',D.ha (i:Nat) tb false,D.hc,DK.ht tb ((qJ (kTp D.kd) fl tbl more).set last ((fl.getD 0 0:Nat):Int))]) (λoo oo=>False):=by
 have n1:=hN.one;have n3:=hN.le;have n4:=hN.lt
 have a1:0<cs.length:=qw J
 refine Ip gk GF.f_PyFat_write_data_to_cluster (lk0 hk rfl) (jm gk) rfl rfl [some (.ref D.a),some (.bytes new),some (.int (st:Nat)),some (.bool true),some (.bool er),none,none,none,none,none,none,none,none,none] rfl λf ok hh=>?_
 refine xN gk (by exact (lk0 hk rfl)) (by exact (qQ [.nl (.a VA VB) KO,.nl VC (.m 4 (.a VA VB))] (.nl VC KR) [1,4,1] rfl a5 n3)) ok ?_
 refine j4 gk (by exact (lk0 hk rfl)) hD hc hm hz h2 J (many:=new.length) (d:=d) (x:=x) (ff:=ff) ok hh (λjj c j1 j2 a3 af H' t=>?_) ((tk0 (tk0 (tk0 (tk0 .nil)))))
 obtain rfl:jj=cs.length:=by rcases af with h|h<;>(first|lia|omega)
 have aj: ∀q∈[D.ha (ff:Nat) tb false,D.ho d x,D.hc,DK.ht tb tbl],q∈H':=λq hq=>t.perm.mem_iff.mpr (yA _ hq)
 refine qm.gt (H9 (x9 (Or.elim n4 (λg=>(zN [.nl KB VA,.nt (.m 4 VB) VC,.ne (.a VB KB) (.a VD VA)] (.zt (.c (.m 4 VD)) (.c VC)) [1,4,1,-4] rfl u g (yn n1))) λg=>(qQ [.nl KB VA,.nt KA VB,.ne (.a VB VA) KB] (.zt (.c (.m 4 VB)) (.c VC)) [0,1,1,1] rfl u a1 g)) ?_))
 refine I3 (H9 (qX ?_))
 refine IZ qg gk ok (C:=380) (aj _ (.head _)) (fa:=284) rfl rfl ?_
 refine IB ?_
 refine IK gk ok GF.f_PyFat_allocate_bytes (qs.hd0 hh (Qu gk (by exact (lk1 hk rfl)) hD (d:=d) (x:=x) (er:=er) (nd:=more) (wW gk) (Or.elim n4 (λg=>(LA [_,_,_,_] [_,_] [.nl VA (.m 4 (.a VB VC)),.nt (.m 4 VD) VA,.ne (.a VD KB) (.a VB VC),.ze (.a (.m 4 ZA) ZB) (.n (.s (.c VA) (.c (.m 4 VB)))),.zl UA ZB,.zt ZB UF] (.ze (.n ZA) (.c VC)) [4,0,1,-4,1,1,0] [4,1,0,0,-1,0,1] rfl n3 g (yn n1) (WG _ 4) (Wj _ (by decide)) (yZ _ (by decide)))) λg=>(wF [.nl KB VA,.nt KA VB,.ne (.a VB VA) KB] (.ze (.n ZA) (.c VA)) [0,1,1,1] rfl u a1 g)) hd hz h3 ag a0 X Z)) t (λy al h'=>?_) λoo oo h=>h.elim
 (refine vL h' λi i1 i2 i3 i4 a9=>?_;refine qB a9 λa x' ab aa=>?_;clear h';subst ab;subst aa)
 generalize a2:frs tbl ff (i - ff)=fl at i4 |-
 have F: ∀c∈fl,2<=c/\c<tbl.length/\tbl[c]? =some 0:=λc hc=>by
  rw [<- a2] at hc
  (refine qZ (kF hc) λq1 q2 a8=>?_;refine qc a8 λq3 q4=>?_)
  exact qy q3 (LB [_,_,_,_,_] [] [.nt VA VB,.nt VC (.a VD VE),.ne (.a VE VD) VA] (.nt VC VB) [1,1,1,1] rfl i2 q2 (yn i1)) q4
 have ae:fl.Nodup:=a2 ▸ Q8
 have ah:fl[0]? =some (fl.getD 0 0):=by rw [We,yw (show 0<fl.length by exact (qM [.nl KB VA,.ne VB VA] (.nt KA VB) [1,1,-1] rfl u i4))];rfl
 have a6:c<tbl.length:=qw ((km.mp hc).2 _ _ a3)
 refine Ii (pm 4 rfl) (by decide) (by decide) (kC ah) ?_
 refine Ir qg gk ok (pm 0 rfl) rfl (by rfl) (by rfl) ?_
 refine IJ (uq2 (uq1 uq0)) (yt _) (lz0 hz a6 rfl) (by rw [yq,zo];exact (Bg.mpr a6)) ?_
 rw [yW,map_set]
 have ai:Ch ((qJ (kTp D.kd) fl tbl more).set c ((fl.getD 0 0:Nat):Int)) (kTp D.kd) (cs++fl):=by
  have:=Y0 (top:=kTp D.kd) hc nc ae (λc' h1 ak=>hv c' h1 (F c' ak).2.2) (λc' h=>(F c' h).2.1) a3 (λe=>by rw [e] at i4;simp at i4;exact (zI [.nl KB VA,.ne KA VA] .ff [0,1,-1] rfl u i4))
  rwa [i4] at this
 have I:((qJ (kTp D.kd) fl tbl more).set c ((fl.getD 0 0:Nat):Int)).length=tbl.length:=by rw [Bj,zo]
 have a4:(if er then zq low fl d more else d).length=d.length:=by
  cases er
  ·rfl
  ·refine Q7 λj hj=>?_
   obtain ⟨c',a7⟩: ∃c',fl[j]? =some c':=(qx _ (yw (show j<fl.length by exact (qQ [.ne VA VB,.nt VC VB] (.nt VC VA) [1,-1,1] rfl i4 hj))))
   rw [zd a7]
   refine qZ (F c' (yC a7)) λq1 q2 oo=>?_
   exact Z c' q1 q2
 refine QD gk (by exact (lk0 hk rfl)) hD ai (.inr (qa (za [] (.zl (.s ZA UH) ZA) rfl) (Bk _))) (by rw [I];exact hz) (λc' h=>by refine Or.elim (yR.mp h) (λh=>?_) λh=>?_;exact h2 c' h;exact (F c' h).1) (by rw [Ww a1];exact J) (by rw [yS,i4];exact a5) hN (by rw [yS,i4];exact yM _)
  (d:=if er then zq low fl d more else d) (by rw [a4];exact hd) (λc' q1 q2=>by rw [a4];exact Z c' q1 (by rw [I] at q2;exact q2)) ok hh (λloc ac=>zp (.refl _) ⟨rfl,i,c,fl,a3,i1,i2,i3,a2.symm,i4,ac,rfl⟩) (R0:=[(a,.list (qd fl))]) ((tk0 (tk0 (tk0 (tk0 .nil)))))
theorem wT (hk:k<580) {st:V}:
  qs (g4 p) k none (.ref 261) [.ref D.a,.bytes new,st,.bool ex,.bool er] [] [D.ha ff tb true] (λy H'=>False) (λx H'=>x.cls= .ref 41/\H'=[D.ha ff tb true]):=by
 refine Ip gk GF.f_PyFat_write_data_to_cluster (lk0 hk rfl) (jm gk) rfl rfl [some (.ref D.a),some (.bytes new),some st,some (.bool ex),some (.bool er),none,none,none,none,none,none,none,none,none] rfl λf ok hh=>?_
 refine Iu gk ok GF.f_init_check (xt gk (by exact (lk1 hk rfl))) ((tk0 .nil)) ?_
 refine qb.fnE gk ok GF.f_readonly_check (hh ▸ Zn gk (by exact (lk1 hk rfl))) ((tk0 .nil)) λe=>?_
 exact qK _ (.refl _) rfl rfl
theorem Xa (hk:k<580) (hD:DOk D low) {st:Nat} (hc:tbl[st]? =some m) (hm:m=0\/m=kTp D.kd - 8) (hz:tbl.length<=100) (hL:new.length<=10000):
  qs (g4 p) k none (.ref 261) [.ref D.a,.bytes new,.int (st:Nat),.bool ex,.bool er] [] [D.ha ff tb false,DK.ht tb tbl] (λy H'=>False) (λx H'=>x.cls= .ref 41/\H'=[D.ha ff tb false,DK.ht tb tbl]):=by
 refine Ip gk GF.f_PyFat_write_data_to_cluster (lk0 hk rfl) (jm gk) rfl rfl [some (.ref D.a),some (.bytes new),some (.int (st:Nat)),some (.bool ex),some (.bool er),none,none,none,none,none,none,none,none,none] rfl λf ok hh=>?_
 refine xN gk (by exact (lk0 hk rfl)) hL ok ?_
 refine λg=>?_
 refine IZ qg gk ok (C:=380) (pm 0 rfl) (fa:=356) rfl rfl ?_
 refine zw.of gk ok hh (by show k+3<1000;exact (lk1 hk rfl)) GF.gen rfl (Im (i:=7) (j:=247) GF.b_gen rfl) rfl rfl (ZR gk (tb:=tb) (val:=λoo oo=>True) (by exact (lk2 hk rfl)) hD.kd hc hm hz) g
  (λj σ=>σ.H=[D.ha ff tb false,DK.ht tb tbl]) (λj σ hi=>(qU ff false (by rw [hi];exact .head _) (by rw [hi];exact .tail _ (.head _)))) rfl (λgs q j x σ u hj hx hi=>absurd hj (DJ _)) (λe=>yQ e) λoo x σ hx hi=>?_
 exact qK _ (.refl _) hx hi
theorem QI (hk:k<580) (hD:DOk D low) (hc:Ch tbl m cs) (hm:k9 D.kd m) (hz:tbl.length<=100) (h2: ∀c∈cs,2<=c) {st:Nat} (u:cs[0]? =some st) (hL:new.length<=10000) (g:4*cs.length<new.length):
  qs (g4 p) k none (.ref 261) [.ref D.a,.bytes new,.int (st:Nat),.bool false,.bool er] [] [D.ha ff tb false,D.ho d x,D.hc,DK.ht tb tbl] (λy H'=>False) (λx' H'=>x'.cls= .ref 41/\H'=[D.ha ff tb false,D.ho d x,D.hc,DK.ht tb tbl]):=by
 refine Ip gk GF.f_PyFat_write_data_to_cluster (lk0 hk rfl) (jm gk) rfl rfl [some (.ref D.a),some (.bytes new),some (.int (st:Nat)),some (.bool false),some (.bool er),none,none,none,none,none,none,none,none,none] rfl λf ok hh=>?_
 refine xN gk (by exact (lk0 hk rfl)) hL ok ?_
 refine j4 gk (by exact (lk0 hk rfl)) hD hc hm hz h2 u (many:=new.length) (d:=d) (x:=x) (ff:=ff) ok hh (λjj c j1 j2 F C H' t=>?_) ((tk0 (tk0 (tk0 (tk0 .nil)))))
 refine qm.gt (H9 (x9 (qQ [.nt (.m 4 VA) VB,.nl VC VA] (.zt (.c (.m 4 VC)) (.c VB)) [1,1,4] rfl g j2) ?_))
 refine I3 (H9 (ke ?_))
 refine jb.o xM gk ok 28 rfl ?_
 exact qb.wk t (UX gk ok hh (by exact (lk1 hk rfl)) λe=>(qK _ (.refl _) rfl rfl))
theorem Zw (hk:k<580) (hD:DOk D low) (hc:Ch tbl m cs) (hm:k9 D.kd m) (hz:tbl.length<=100) (h2: ∀c∈cs,2<=c) {st:Nat} (X:cs[0]? =some st) (hL:new.length<=500) (hN:jP new.length (cs.length+more)) (u:1<=more)
  (h3:3<=tbl.length) (a1:ff<tbl.length) (I:jU tbl (tbl.length - 1)=false) (F:(frs tbl ff (tbl.length - ff)).length<more):
  qs (g4 p) k none (.ref 261) [.ref D.a,.bytes new,.int (st:Nat),.bool true,.bool er] [] [D.ha (ff:Nat) tb false,D.ho d x,D.hc,DK.ht tb tbl] (λy H'=>False) (λx' H'=>x'.cls= .ref 41/\H'=[D.ha (ff:Nat) tb false,D.ho d x,D.hc,DK.ht tb tbl]):=by
 have n1:=hN.one;have n3:=hN.le;have n4:=hN.lt
 have J:0<cs.length:=qw X
 refine Ip gk GF.f_PyFat_write_data_to_cluster (lk0 hk rfl) (jm gk) rfl rfl [some (.ref D.a),some (.bytes new),some (.int (st:Nat)),some (.bool true),some (.bool er),none,none,none,none,none,none,none,none,none] rfl λf ok hh=>?_
 refine xN gk (by exact (lk0 hk rfl)) (by exact (ll0 hL rfl)) ok ?_
 refine j4 gk (by exact (lk0 hk rfl)) hD hc hm hz h2 X (many:=new.length) (d:=d) (x:=x) (ff:=ff) ok hh (λjj c j1 j2 a3 a0 H' t=>?_) ((tk0 (tk0 (tk0 (tk0 .nil)))))
 obtain rfl:jj=cs.length:=by rcases a0 with h|h<;>(first|lia|omega)
 have a2: ∀q∈[D.ha (ff:Nat) tb false,D.ho d x,D.hc,DK.ht tb tbl],q∈H':=λq hq=>t.perm.mem_iff.mpr (yA _ hq)
 refine qm.gt (H9 (x9 (Or.elim n4 (λg=>(zN [.nl KB VA,.nt (.m 4 VB) VC,.ne (.a VB KB) (.a VD VA)] (.zt (.c (.m 4 VD)) (.c VC)) [1,4,1,-4] rfl u g (yn n1))) λg=>(qQ [.nl KB VA,.nt KA VB,.ne (.a VB VA) KB] (.zt (.c (.m 4 VB)) (.c VC)) [0,1,1,1] rfl u J g)) ?_))
 refine I3 (H9 (qX ?_))
 refine IZ qg gk ok (C:=380) (a2 _ (.head _)) (fa:=284) rfl rfl ?_
 refine IB ?_
 refine IK gk ok GF.f_PyFat_allocate_bytes (qs.hd0 hh (jy gk (by exact (lk1 hk rfl)) hD (d:=d) (x:=x) (er:=er) (nd:=more) (wW gk) (Or.elim n4 (λg=>(LA [_,_,_,_] [_,_] [.nl VA (.m 4 (.a VB VC)),.nt (.m 4 VD) VA,.ne (.a VD KB) (.a VB VC),.ze (.a (.m 4 ZA) ZB) (.n (.s (.c VA) (.c (.m 4 VB)))),.zl UA ZB,.zt ZB UF] (.ze (.n ZA) (.c VC)) [4,0,1,-4,1,1,0] [4,1,0,0,-1,0,1] rfl n3 g (yn n1) (WG _ 4) (Wj _ (by decide)) (yZ _ (by decide)))) λg=>(wF [.nl KB VA,.nt KA VB,.ne (.a VB VA) KB] (.ze (.n ZA) (.c VA)) [0,1,1,1] rfl u J g)) (Or.elim n4 (λg=>⟨(zN [.nl KB VA,.nt (.m 4 VB) VC,.ne (.a VB KB) (.a VD VA)] (.zl UA (.s (.c VC) (.c (.m 4 VD)))) [1,4,1,-4] rfl u g (yn n1)),(qq [.nl VA (.k 500)] (.zt (.s (.c VA) (.c (.m 4 VB))) UP) rfl hL)⟩) λg=>(qa (qQ [.nl KB VA,.ne (.a VB VA) KB] (.zl UA (.s (.c VC) (.c (.m 4 VB)))) [1,4,4] rfl u g) (qQ [.nl KB VA,.nt KA VB,.ne (.a VB VA) KB] (.zt (.s (.c VC) (.c (.m 4 VB))) UP) [0,1,1,1] rfl u J g))) hz h3 a1 I F)) t (λoo oo h=>h.elim) λe a4 h'=>?_
 (refine qc h' λh1 Z=>?_;clear h';subst Z)
 exact qK _ (.refl _) h1 rfl
end
theorem qp.refl: ∀(l:List α),qp l l []
 |[]=> .nil
 |_::r=> .cons .head (qp.refl r)
noncomputable abbrev qO (chs:List (yu × List Nat)):List (yu × O):=chs.map λq=>(q.1,.list (qd q.2))
noncomputable abbrev qL (chs:List (yu × List Nat)):List V:=chs.map λq=> .ref q.1
theorem Qh (h:q∈chs):(q.1,O.list (qd q.2))∈qO chs:=yD.mpr (qj q h rfl)
noncomputable def xj (n:Nat) (top:Int) (bads:List Nat):List Int:=zK (top - 8) ((top - 7)::top::Wo (n - 2) 0) bads
noncomputable def qY (t:List Int) (cs:List (List Nat)) (ms:List Int):List Int:=(cs.zip ms).foldl (λt p=>qJ p.2 p.1 t p.1.length) t
theorem Z9 (h:2<=n):(xj n top bads).length=n:=by
 unfold xj
 rw [jB,WE,WE,BZ];exact (zH [.ne (.a VA KC) VB] (.ne (.a (.a VA KB) KB) VB) [1,-1] [1,1] rfl (yn h))
theorem Zi:(qY t cs ms).length=t.length:=by
 unfold qY
 generalize cs.zip ms=l
 induction l generalizing t with
 |nil=>rfl
 |cons p r ih=>exact ih.trans zo
theorem wZ (h:cs.length=ms.length):qY t (cs++[c]) (ms++[m])=qJ m c (qY t cs ms) c.length:=by
 unfold qY
 rw [List.zip_append h,D3]
 rfl
theorem uw (h:c≠[]) (hj:j<c.length):(qd (c.drop 1)++[V.int m])[j]? =some (.int (nx m c j)):=by
 unfold nx
 by_cases h1:j+1<c.length
 ·rw [Ww (by rw [yq,Ws];exact (qQ [.nt (.a VA KB) VB,.ne (.a VC KB) VB] (.nt VA VC) [1,1,-1] rfl h1 (yn (qq [.nt VA VB] (.nl KB VB) rfl hj)))),yO,WZ,Nat.add_comm,yw h1];rfl
 ·rw [Wn (by rw [yq,Ws];exact (qR [.nl VA (.a VB KB),.ne (.a VC KB) VA] (.nl VC VB) rfl (Wg h1) (yn (qq [.nt VA VB] (.nl KB VB) rfl hj)))),yq,Ws,show j - (c.length - 1)=0 by exact (jA [.nt VA VB,.ne (.a VC VD) VA,.ne (.a VD KB) VB] (.ne VC KA) [1,0,0,0] [1,1,1,-1] rfl hj (yn (qR [.nl VA (.a VB KB),.ne (.a VC KB) VA] (.nl VC VB) rfl (Wg h1) (yn (qq [.nt VA VB] (.nl KB VB) rfl hj)))) (yn (qq [.nt VA VB] (.nl KB VB) rfl hj))),W2 (l:=c) (i:=j+1) (by exact (Wg h1))];rfl
section
variable {g:G} {f:Fx} {n:Nat} {σ:St} {Q:QV} {E:QE}
theorem qv.dropL (hm:(a,.list xs)∈σ.H) (hz:xs.length<=16777216) (u:m<=xs.length) (h: ∀c,Q (.ref c) ⟨σ.loc,(c,.list (xs.drop m))::σ.H⟩):qv g f n (.ref a) (.int (m:Nat)) .none Q E σ:=by
 refine qv.list hm (lo:=some (m:Nat)) (hi:=none) rfl rfl (by rw [Wp];exact hz) λc=>?_
 have e0:Bp xs.length ((m:Nat):Int)=m:=by unfold Bp;rw [if_neg (by exact (Bw.mpr (yt _)))];exact (LA [_,_] [_,_] [.ze (.c VA) ZA,.ze ZA ZB,.ze ZB (.c VB)] (.ne VA VB) [1,-1,-1,-1] [1,1,1,1] rfl (yz (za [.zl UA ZA] (.zl UA ZA) rfl (Fu _ _))) (WS (F8.mpr (qa (yt _) (yt _)))) (BU (qq [.nl VA VB] (.zl (.c VA) (.c VB)) rfl u)))
 simp only [DB]
 rw [e0,WP (by rw [Ws];exact (qD [] (.nl VA VA) rfl))]
 exact h c
end
theorem jg {k:Nat} (h:(qd fl)[k]? =some x): ∃c,fl[k]? =some c/\x= .int (c:Nat):=by
 rw [yO] at h
 refine qf (WB.mp h) λc h1 h2=>?_
 exact qj c h1 h2.symm
section
variable {p:GP} {mg mb:Str->Option yr} (gk:GOk (g4 p) mg mb)
include gk
theorem kJ (hk:k<600) {cnt:Nat} (hn:2<=cnt/\cnt<=100) (hb: ∀c∈bads,c<cnt) (ax:bads.length<=100) (hl:chs.length=marks.length) (aw:chs.length<=100) (hc: ∀q∈chs,q.2≠[]/\q.2.length<=100/\∀c∈q.2,c<cnt):
  qs (g4 p) k none (.ref 398) [.int (cnt:Nat),.int top,.ref b,.ref ca,.ref ma] [] ((b,.list (qd bads))::(ca,.list (qL chs))::(ma,.list (marks.map V.int))::qO chs)
   (λy H'=>∃t,y= .ref t/\H'=DK.ht t (qY (xj cnt top bads) (chs.map (·.2)) marks)::(b,.list (qd bads))::(ca,.list (qL chs))::(ma,.list (marks.map V.int))::qO chs) (λoo oo=>False):=by
 have av:qp (qO chs) (qO chs) []:=qp.refl _
 refine Ip gk GF.f_law_table (lk0 hk rfl) (ps:=[(162,.int (cnt:Nat)),(253,.int top),(254,.ref b),(255,.ref ca),(256,.ref ma)]) (λvs kw hv hk=>?_) rfl rfl [some (.int (cnt:Nat)),some (.int top),some (.ref b),some (.ref ca),some (.ref ma),none,none,none,none,none] rfl λf ok hh=>?_
 ·(refine qk hv λv1 oo a9 h1 z2=>?_;refine qk z2 λv2 oo a8 h2 z3=>?_;refine qk z3 λv3 oo a7 h3 z4=>?_;refine qk z4 λv4 oo z0 h4 z5=>?_;refine qk z5 λv5 oo z1 h5 e=>?_;clear hv;subst a9;subst a8;subst a7;subst z0;subst z1)
  obtain rfl:=e;obtain rfl:=hk
  exact qj _ (GF.b_law_table v1 v2 v3 v4 v5) (.cons (qy (yL.mp rfl) rfl h1) (.cons (qy (yL.mp rfl) rfl h2) (.cons (qy (yL.mp rfl) rfl h3) (.cons (qy (yL.mp rfl) rfl h4) (.cons (qy (yL.mp rfl) rfl h5) .nil)))))
 refine IB ?_
 intro l1 l2
 refine IB ?_
 refine qo.rep (x:= .int 0) (xs:=[]) (pm 0 rfl) (qD [] (.zl (.n (.k (2^63))) (.s (.c VA) UC)) rfl) (qD [.nl VA KO] (.zt (.s (.c VA) UC) (.k (2^63))) rfl hn.2) (by show (0+1)*_<=2 ^ 24;(first|lia|omega)) λl3=>?_
 refine qo.cat (pm 2 rfl) (pm 0 rfl) (by rw [show (((cnt:Nat):Int) - 2).toNat=cnt - 2 by exact (xJ [.ze (.c VA) (.s (.c VB) UC),.ne (.a VC KC) VB] (.ne VA VC) [1,-1,1] [1,1,-1] rfl (yz (qD [.nl KC VA] (.zl UA (.s (.c VA) UC)) rfl hn.1)) (yn hn.1))];simp;exact (qq [.nl VA KO,.ne (.a VB KC) VA] (.nl (.a KC VB) KT) rfl hn.2 (yn hn.1))) λt=>?_
 have e0:[V.int (top - 7),.int top]++(Wo (((cnt:Nat):Int) - 2).toNat [V.int 0]).flatten=((top - 7)::top::Wo (cnt - 2) 0).map V.int:=by
  rw [show (((cnt:Nat):Int) - 2).toNat=cnt - 2 by exact (xJ [.ze (.c VA) (.s (.c VB) UC),.ne (.a VC KC) VB] (.ne VA VC) [1,-1,1] [1,1,-1] rfl (yz (qD [.nl KC VA] (.zl UA (.s (.c VA) UC)) rfl hn.1)) (yn hn.1))]
  have: ∀k:Nat,(Wo k [V.int 0]).flatten=(Wo k (0:Int)).map V.int:=λk=>by
   induction k with
   |zero=>rfl
   |succ k ih=>rw [BG,Wa,ih];rfl
  rw [this];rfl
 rw [e0]
 have J:((top - 7)::top::Wo (cnt - 2) (0:Int)).length=cnt:=by rw [WE,WE,BZ];exact (zH [.ne (.a VA KC) VB] (.ne (.a (.a VA KB) KB) VB) [1,-1] [1,1] rfl (yn hn.1))
 generalize al:(top - 7)::top::Wo (cnt - 2) (0:Int)=t0 at J |-
 refine zC.wk (H₂:=DK.ht t t0::(b,.list (qd bads))::(ca,.list (qL chs))::(ma,.list (marks.map V.int))::qO chs) ((tk0 (tk3 (tk3 (tk3 (.under (.under (.under (.refl _))))))))) ?_
 refine zC.list gk ok hh (xs:=qd bads) (λj σ=>∃z6,σ=⟨[some (.int (cnt:Nat)),some (.int top),some (.ref b),some (.ref ca),some (.ref ma),some (.ref t),z6,none,none,none],DK.ht t (zK (top - 8) t0 (bads.take j))::(b,.list (qd bads))::(ca,.list (qL chs))::(ma,.list (marks.map V.int))::qO chs⟩) (λj σ hi=>?_) (qx none rfl) (λq j x σ I hj hi=>?_) (λσ hi=>?_)
 ·(refine qA hi λoo z6=>?_;clear hi;subst z6)
  exact pm 1 rfl
 ·(refine qA hi λz6 z7=>?_;clear hi;subst z7)
  (refine qf (jg hj) λc a3 z8=>?_;subst z8)
  have:=hb c (yC a3)
  refine IB ?_
  refine IJ (uq0) (yt _) (lz0 hn.2 this rfl) (by rw [yq,jB,J];exact (Bg.mpr this)) ?_
  rw [yW,map_set]
  dsimp only [nxt,wSs,turn]
  exact Wk.of (qx _ (by rw [zy a3,wy];rfl))
 ·(refine qA hi λz6 z9=>?_;clear hi;subst z9)
  rw [yq,Bs]
  have e1:zK (top - 8) t0 bads=xj cnt top bads:=by rw [<- al];rfl
  rw [e1]
  have l0:=Z9 (top:=top) (bads:=bads) hn.1
  generalize xj cnt top bads=T0 at l0 |-
  refine qb.zip (pm 2 rfl) (pm 3 rfl) λz TI TO i1 i2 L D ao=>?_
  refine zC.zip gk ok hh (xs:=qL chs) (ys:=marks.map V.int) D ao (by rw [yq,yq,hl]) (λj σ=>∃z6 z7 z8 z9,σ=⟨[some (.int (cnt:Nat)),some (.int top),some (.ref b),some (.ref ca),some (.ref ma),some (.ref t),z6,z7,z8,z9],DK.ht t (qY T0 ((chs.map (·.2)).take j) (marks.take j))::(b,.list (qd bads))::(ca,.list (qL chs))::(ma,.list (marks.map V.int))::qO chs⟩) (λj σ hi=>?_) (qW z6 _ _ (qx _ rfl)) (λq j T x y σ I a1 a0 hi=>?_) (λσ hi=>?_)
  ·(refine uE hi λoo oo oo oo ak=>?_;clear hi;subst ak)
   exact qa (.tail _ (.tail _ (.head _))) (.tail _ (.tail _ (.tail _ (.head _))))
  ·(refine uE hi λz6 z7 z8 z9 aj=>?_;clear hi;subst aj)
   rw [yO] at a1 a0
   (refine qf (WB.mp a1) λai C ah=>?_;obtain ⟨a,ch⟩:=ai;subst ah)
   (refine qf (WB.mp a0) λm Z ag=>?_;subst ag)
   have X:(a,ch)∈chs:=yC C
   refine qZ (hc _ X) λc1 c2 c3=>?_
   dsimp only at c1 c2 c3
   have aq:(a,O.list (qd ch))∈qO chs:=Qh X
   have u:0<ch.length:=WU.mpr c1
   refine wD.tup (show (f.at q).hd=none from hh) (.head _) rfl ?_
   dsimp only [sts,st]
   refine qv.dropL (m:=1) (.tail _ (.tail _ (.tail _ (.tail _ (.tail _ (by assumption)))))) (by rw [yq];exact (ll0 c2 rfl)) (by rw [yq];exact (qD [.nt KA VA] (.nl KB VA) rfl u)) λs1=>?_
   intro s2
   refine qo.cat (pm 1 rfl) (pm 0 rfl) (by rw [Ws,yq];show _+1<=_;exact (qq [.nl VA KO,.ne (.a VB KB) VA] (.nl (.a VB KB) KT) rfl c2 (yn (qD [.nt KA VA] (.nl KB VA) rfl u)))) λs3=>?_
   rw [<- HY]
   refine qb.zip (.tail _ (.tail _ (.tail _ (.tail _ (.tail _ (.tail _ (.tail _ (.tail _ (by assumption))))))))) (pm 0 rfl) λz' az ay au ar L' D' a6=>?_
   have a5:(qY T0 ((chs.map (·.2)).take j) (marks.take j)).length=cnt:=by rw [Zi,l0]
   have g:qY T0 ((chs.map (·.2)).take (j+1)) (marks.take (j+1))=qJ m ch (qY T0 ((chs.map (·.2)).take j) (marks.take j)) ch.length:=by
    rw [zy (c:=ch) (by rw [yO,C];rfl),zy Z,wZ]
    rw [Wx,Wx,yq,hl]
   generalize qY T0 ((chs.map (·.2)).take j) (marks.take j)=Tj at a5 g |-
   refine zC.wk (H₂:=(z',.many L')::DK.ht t Tj::(s3,.list (qd (ch.drop 1)++[.int m]))::(b,.list (qd bads))::(ca,.list (qL chs))::(ma,.list (marks.map V.int))::qO chs) ((tk0 (tk4 (tk0 (tk3 (tk3 (tk3 (.under (.under (.under (.refl _))))))))))) ?_
   refine zC.zip (f:=f.at q) gk I hh (xs:=qd ch) (ys:=qd (ch.drop 1)++[.int m]) D' a6 (by rw [yS,yq,yq,Ws];show _=_+1;exact (zH [.ne (.a VA KB) VB] (.ne VB (.a VA KB)) [1,1] [1,-1] rfl (yn (qD [.nt KA VA] (.nl KB VA) rfl u)))) (λi σ=>∃z6 z9,σ=⟨[some (.int (cnt:Nat)),some (.int top),some (.ref b),some (.ref ca),some (.ref ma),some (.ref t),z6,some (.ref a),some (.int m),z9],DK.ht t (qJ m ch Tj i)::(s3,.list (qd (ch.drop 1)++[.int m]))::(b,.list (qd bads))::(ca,.list (qL chs))::(ma,.list (marks.map V.int))::qO chs⟩) (λi σ hi=>?_) (jH z6 z9 rfl) (λq' i T' x' y' σ ap am a2 hi=>?_) (λσ hi=>?_)
   ·(refine XM hi λoo oo af=>?_;clear hi;subst af)
    exact qa (.tail _ (.tail _ (.tail _ (.tail _ (.tail _ (by assumption)))))) (.tail _ (.head _))
   ·(refine XM hi λz6 z9 ae=>?_;clear hi;subst ae)
    (refine qf (jg am) λc F ac=>?_;subst ac)
    have an:=qw F
    rw [uw c1 an] at a2
    obtain rfl:=Wc.inj a2
    have a4:=c3 c (yC F)
    refine wD.tup (f:=(f.at q).at q') hh (.head _) rfl ?_
    dsimp only [sts,st]
    refine IJ (uq1 uq0) (yt _) (lz0 hn.2 a4 rfl) (by rw [yq,zo];exact (qQ [.ne VA VB,.nt VC VB] (.zt (.c VC) (.c VA)) [1,-1,1] rfl a5 a4)) ?_
    rw [yW,map_set]
    dsimp only [nxt,wSs,turn]
    refine IY (P:=λσ=>∃z6 z9,σ=_) (H₂:=DK.ht t (qJ m ch Tj (i+1))::(s3,.list (qd (ch.drop 1)++[.int m]))::(b,.list (qd bads))::(ca,.list (qL chs))::(ma,.list (marks.map V.int))::qO chs) (by rw [jh,zd F];exact (tk1 (tk1 (tk1 (tk1 (tk1 (.under (.refl _)))))))) (jH _ _ rfl)
   ·(refine XM hi λz6 z9 ab=>?_;clear hi;subst ab)
    rw [yq]
    dsimp only [nxt,wSs,turn]
    refine IY (P:=λσ=>∃z6 z7 z8 z9,σ=_) (H₂:=DK.ht t (qJ m ch Tj ch.length)::(b,.list (qd bads))::(ca,.list (qL chs))::(ma,.list (marks.map V.int))::qO chs) ((tk0 (tk1 (tk1 (tk1 (.under (.refl _))))))) (qW z6 _ _ (qx z9 (by rw [g])))
  ·(refine uE hi λz6 z7 z8 z9 aa=>?_;clear hi;subst aa)
   refine xu (.refl _) (qj t rfl ?_)
   rw [yq,WP (by rw [yq];exact yM _),WP (by exact (qM [.ne VA VB] (.nl VB VA) [1,-1] rfl hl))]
end
section
variable {p:GP} {mg mb:Str->Option yr} (gk:GOk (g4 p) mg mb)
include gk
theorem uG (hk:k<600) (hm:(fa,.raw fo)∈H) (g:fo.data= .func fd)
  (h:qs (g4 p) (k+3) none (.ref fa) [] [] H Q E') (hE: ∀x H,E' x H->x.cls= .ref 41):
  qs (g4 p) k none (.ref 391) [.ref fa] [] H (λy H'=>∃t H1,y= .ref t/\((∃x,Q x H1/\H'=(t,.tup [.bool true,x])::H1)\/((∃x,E' x H1)/\H'=(t,.tup [.bool false,.none])::H1))) (λoo oo=>False):=by
 refine Ip gk GF.f_law_ask (lk0 hk rfl) (I0 (i:=179) GF.b_law_ask rfl) rfl rfl [some (.ref fa)] rfl λf ok hh=>?_
 refine qb.lam ok hm g (qs.hd0 hh h) (H₂:=[]) (by rw [Wq]) (λx H' hq=>?_) (λx H' he=>?_)
 ·intro t
  exact xu (.refl _) (qU t H' rfl (.inl (qj x hq (by rw [Wq]))))
 ·refine YC.of ok (Y1.hit gk ok (tv:= .ref 41) rfl (by rw [hE _ _ he];exact p.kf.exm41) λpr l u=>?_)
  intro t
  exact xu (.refl _) (qU t H' rfl (.inr (qa (qx x he) (by rw [Wq]))))
end
theorem uF {α:Type}: ∀{l:List α},l.length=1->∃a,l=[a]
 |[a],_=>(qx a rfl)
theorem Sm.nats (h1:(a,O.list (qd fl))∈H) (h2:(b,O.list (qd fl))∈H):Sm H 1 (.ref a) (.ref b):=by
 refine .inr (qW a b _ (uY _ rfl rfl (.inl (qa h1 h2)) rfl (λi x y e1 e2=>?_)))
 rw [e1] at e2
 obtain rfl:=Wc.inj e2
 (refine qf (jg e1) λc oo g=>?_;subst g)
 exact qa rfl (.inr (.inr (.inl (qx _ rfl))))
theorem YR (h1:zs.length=fl.length) (h2: ∀(i:Nat) y,zs[i]? =some y->∃c:Nat,fl[i]? =some c/\y= .int (c:Nat)):zs=qd fl:=by
 refine D1 λi=>?_
 by_cases hi:i<zs.length
 ·refine qf (h2 i _ (yw hi)) λc e1 e2=>?_
  rw [yw hi,e2,yO,e1];rfl
 ·rw [W2 (by exact (Wg hi)),W2 (by rw [yq];exact (qQ [.ne VA VB,.nl VA VC] (.nl VB VC) [1,-1,1] rfl h1 (Wg hi)))]
section
variable {p:GP} {mg mb:Str->Option yr} (gk:GOk (g4 p) mg mb) {D:DK} {tb:yu} {tbl:List Int}
include gk
theorem JF (hk:k<600) (ar:j7 D.kd) {parts:List (List UInt8)} (hz:tbl.length<=100) (hd:parts.flatten=d) (av:d.length<=10000) (hp:2<=parts.length) (aq:chs.length<=100)
  (hc: ∀q∈chs,q.2.length<=100/\(∀c∈q.2,2<=c)/\∃m,Ch tbl m q.2/\k9 D.kd m):
  qs (g4 p) k none (.ref 403) [.ref D.a,.ref D.o,.ref t2,.ref pa,.ref ca] [] (D.ha ff tb ro::D.ho d x0::DK.ht tb tbl::DK.ht t2 tbl::(pa,.list (parts.map V.bytes))::(ca,.list (qL chs))::qO chs)
   (λy H'=>y= .bool true/\H'=D.ha ff tb ro::D.ho d x0::DK.ht tb tbl::DK.ht t2 tbl::(pa,.list (parts.map V.bytes))::(ca,.list (qL chs))::qO chs) (λoo oo=>False):=by
 refine qs.def gk GF.f_law_same (Bx hk (by decide)) (ps:=[(84,.ref D.a),(82,.ref D.o),(257,.ref t2),(262,.ref pa),(255,.ref ca)]) (λvs kw hv hk=>?_) (zu rfl) (λq hq=>?_) λf as ok hcode hs ax hl hh=>?_
 ·(refine qk hv λv1 oo an h1 ai=>?_;refine qk ai λv2 oo am h2 ah=>?_;refine qk ah λv3 oo al h3 ag=>?_;refine qk ag λv4 oo ak h4 af=>?_;refine qk af λv5 oo aj h5 e=>?_;clear hv;subst an;subst am;subst al;subst ak;subst aj)
  obtain rfl:=e;obtain rfl:=hk
  exact qj _ (GF.b_law_same v1 v2 v3 v4 v5) (.cons (qy (yL.mp rfl) rfl h1) (.cons (qy (yL.mp rfl) rfl h2) (.cons (qy (yL.mp rfl) rfl h3) (.cons (qy (yL.mp rfl) rfl h4) (.cons (qy (yL.mp rfl) rfl h5) .nil)))))
 ·rcases yy.mp hq with rfl|hq
  ·exact .inr (.head _)
  ·refine .inl ?_
   simp only [yy,yI,or_false] at hq
   rcases hq with rfl|rfl|rfl|rfl<;>exact WK.mp rfl
 (refine qA (uF (α:=yu) hl) λa1 ae=>?_;subst ae)
 have F:f.cells.lookup 84=some a1:=by rw [ax];rfl
 show wSs (g4 p) f (k+3) b_law_same _ _ ⟨[some (.ref D.o),some (.ref t2),some (.ref pa),some (.ref ca)],(a1,.cell (some (.ref D.a)))::D.ha ff tb ro::D.ho d x0::DK.ht tb tbl::DK.ht t2 tbl::(pa,.list (parts.map V.bytes))::(ca,.list (qL chs))::qO chs⟩
 refine qe a1 _ F (.head _) ?_
 refine Ir qg gk ok (pm 1 rfl) rfl (by rfl) (by rfl) ?_
 refine qm.neIs rfl (pm 3 rfl) (pm 4 rfl) (by show k+3+64<9900;exact (lk2 hk rfl)) ?_
 refine H9 (qa (λe=>yQ e) (λoo=>?_))
 refine Ir qg gk ok (pm 2 rfl) rfl (by rfl) (by rfl) ?_
 refine zE.join rfl ?_
 refine qb.join (pm 5 rfl) hp (by rw [hd];exact (ll0 av rfl)) ?_
 refine qm.neYE hd.symm ?_
 refine H9 (qa (λe=>yQ e) (λoo=>qX ?_))
 have aw:List.lookup 84 (zZ (f.cells.lookup ·) [(141,.local),(258,.local),(189,.globalImplicit),(84,.free)] [])=some a1:=(show _=some ((f.cells.lookup 84).getD 0) from rfl).trans (by rw [F];rfl)
 refine jL.list gk ok hh (xs:=qL chs) rfl (by simp [xg,F]) (λj ys H'=>∃(rs:List (yu × List Nat)) (R:List (yu × O)),ys=qL rs/\rs.map (·.2)=(chs.map (·.2)).take j/\j<=100/\(∀q∈rs,(q.1,O.list (qd q.2))∈H')/\
  H'=R++(a1,.cell (some (.ref D.a)))::D.ha ff tb ro::D.ho d x0::DK.ht tb tbl::DK.ht t2 tbl::(pa,.list (parts.map V.bytes))::(ca,.list (qL chs))::qO chs) (λj ys H' hi=>?_) (λq m C j x ys H' I hx hi=>?_) (λj ys H' hi=>?_) (ZW [] [] rfl rfl (WI _) (λoo h=>(yI h).elim) rfl) λys H' Dm hi=>?_
 ·(refine ZF hi λrs R oo oo oo oo ac=>?_;clear hi;subst ac)
  exact yx _ (pm 6 rfl)
 ·(refine ZF hi λrs R ab h1 h2 h3 aa=>?_;clear hi;subst ab;subst aa)
  rw [yO] at hx
  (refine qf (WB.mp hx) λa9 g a8=>?_;obtain ⟨a,ch⟩:=a9;subst a8)
  have J:(a,ch)∈chs:=yC g
  (refine qZ (hc _ J) λc2 c3 a7=>?_;refine qf a7 λmk c4 c5=>?_)
  dsimp only at c2 c3 c4
  have ay:(a,O.list (qd ch))∈qO chs:=Qh J
  have au:=qw g
  obtain ⟨c0,Z⟩: ∃c0,ch[0]? =some c0:=by
   cases ch with
   |nil=>exact c4.elim
   |cons c r=>exact qx c rfl
  have dm: ∀{q:yu × O},q∈(a1,.cell (some (.ref D.a)))::D.ha ff tb ro::D.ho d x0::DK.ht tb tbl::DK.ht t2 tbl::(pa,.list (parts.map V.bytes))::(ca,.list (qL chs))::qO chs->q∈R++(a1,.cell (some (.ref D.a)))::D.ha ff tb ro::D.ho d x0::DK.ht tb tbl::DK.ht t2 tbl::(pa,.list (parts.map V.bytes))::(ca,.list (qL chs))::qO chs:=λh=>yx _ h
  refine qe a1 _ aw (dm (.head _)) ?_
  refine IZ qg gk I (C:=380) (dm (.tail _ (.head _))) (fa:=356) rfl rfl ?_
  refine Ii (dm (.tail _ (.tail _ (.tail _ (.tail _ (.tail _ (.tail _ (.tail _ (by assumption))))))))) (by decide) (by decide) (kC Z) ?_
  refine xQ.list gk I hh (by show k+3+2<1000;exact (lk2 hk rfl)) GF.gen rfl (Im (i:=7) (j:=247) GF.b_gen rfl) rfl rfl (Qf gk (tb:=tb) (by exact (lk3 hk rfl)) ar c4 c5 hz c3 Z) (ll0 c2 rfl) (λDg zs=>(qU ff ro (.tail _ (dm (.tail _ (.head _)))) (.tail _ (dm (.tail _ (.tail _ (.tail _ (.head _)))))))) λDg zs ap ao=>?_
  obtain rfl:=YR ap ao
  refine qa (qx _ rfl) (ZW (rs++[(Dg,ch)]) ((Dg,.list (qd ch))::R) ((yE (f:=λq:yu × List Nat=>V.ref q.1) (l₁:=rs) (l₂:=[(Dg,ch)])).symm) ?_ (qq [.nl VA KO,.nt VB VA] (.nl (.a VB KB) KO) rfl aq au) (λq hq=>?_) rfl)
  ·rw [yE,h1,zy (c:=ch) (by rw [yO,g];rfl)];rfl
  ·refine Or.elim (yR.mp hq) (λhq=>?_) λhq=>?_
   ·exact .tail _ (h3 q hq)
   ·rw [yN.mp hq];exact .head _
 ·(refine ZF hi λrs R a6 h1 h2 h3 a5=>?_;clear hi;subst a6;subst a5)
  have:=congrArg HB h1
  rw [yq,Wx] at this
  rw [yq];exact (qR [.nl VA KO,.ne VB VC,.nl VC VA] (.nl VB KT) rfl h2 this (Ft _ _))
 ·(refine ZF hi λrs R a4 h1 h2 h3 a3=>?_;clear hi;subst a4;subst a3)
  rw [yq,WP (by rw [yq];exact yM _)] at h1
  have X:rs.length=chs.length:=by have:=congrArg HB h1;rwa [yq,yq] at this
  refine qm.eqSm (k:=1) (.head _) (.tail _ (yx _ (pm 6 rfl))) (by rw [yq,yq,X]) (λi u v e1 e2=>?_) (by show k+3+1+1<9900;exact (lk3 hk rfl)) ?_
  ·rw [yO] at e1 e2
   (refine qf (WB.mp e1) λq1 f1 a2=>?_;subst a2)
   (refine qf (WB.mp e2) λq2 f2 a0=>?_;subst a0)
   have e:q1.2=q2.2:=by
    have:=congrArg (·[i]?) h1
    simp only [yO,f1,f2,Option.map_some,Wc.injEq] at this
    exact this
   refine Sm.nats (fl:=q1.2) (.tail _ (h3 q1 (yC f1))) (.tail _ (yx _ ?_))
   rw [e]
   have:=Qh (yC f2)
   exact .tail _ (.tail _ (.tail _ (.tail _ (.tail _ (.tail _ (.tail _ (by assumption)))))))
  ·exact xu (.drop (Sub.left (.drop (.refl _)) R)) (qa rfl rfl)
end
structure WF (n:Nat) (kd:Int) (bads:List Nat) (css:List (List Nat)) (marks:List Int):Prop where
 len:css.length=marks.length
 ne: ∀c∈css,c≠[]
 rng: ∀x∈css.flatten,2<=x/\x<n/\x ∉ bads
 nd:css.flatten.Nodup
 mks: ∀m∈marks,k9 kd m
structure zS (n:Nat) (bads:List Nat):Prop where
 n9:9<=n/\n<=13
 rng: ∀b∈bads,2<=b/\b<n
 last:n - 1∈bads
 len:bads.length=2
structure zh (n:Nat) (top:Int) (bads:List Nat) (css:List (List Nat)) (marks:List Int) (T:List Int):Prop where
 len:T.length=n
 t0:T[0]? =some (top - 7)
 t1:T[1]? =some top
 bad: ∀b∈bads,T[b]? =some (top - 8)
 ch: ∀(k:Nat) c m,css[k]? =some c->marks[k]? =some m->∀j x:Nat,c[j]? =some x->T[x]? =some (nx m c j)
 fr: ∀x,2<=x->x<n->x ∉ bads->x ∉ css.flatten->T[x]? =some 0
theorem Xh {css:List (List Nat)} (h:x∈css.flatten): ∃k c j:Nat,∃c,css[k]? =some c/\c[j]? =some x:=by
 refine qf (WT.mp h) λc h1 h2=>?_
 refine qA (Ds.mp h1) λk hk=>?_
 refine qA (Ds.mp h2) λj hj=>?_
 exact XP k 0 j c hk hj
theorem kK {css:List (List Nat)} {k j x:Nat} (h1:css[k]? =some c) (h2:c[j]? =some x):x∈css.flatten:=
 WT.mpr (qj c (yC h1) (yC h2))
theorem kj {α β:Type} {l:List α} {r:List β} (h:l.length=r.length) {k:Nat} {c:α} (e:l[k]? =some c): ∃m,r[k]? =some m:=
 (qx _ (yw (h ▸ (Wb.mp e).1)))
theorem Xl (hl:css.length=marks.length) (h:zh n top bads css marks T) (h':zh n top bads css marks T'):T=T':=by
 refine D1 λx=>?_
 by_cases hx:x<n
 ·by_cases h0:x=0
  ·subst h0;rw [h.t0,h'.t0]
  by_cases h1:x=1
  ·subst h1;rw [h.t1,h'.t1]
  by_cases hb:x∈bads
  ·rw [h.bad x hb,h'.bad x hb]
  by_cases hf:x∈css.flatten
  ·refine wh (Xh hf) λk oo j c e1 e2=>?_
   refine qA (kj hl e1) λm em=>?_
   rw [h.ch k c m e1 em j x e2,h'.ch k c m e1 em j x e2]
  ·rw [h.fr x (Or.elim (Wh h0) (λw3=>(zI [.nt VA KA] (.nl KC VA) [0,1] rfl w3)) λw3=>(Or.elim (Wh h1) (λw4=>(zI [.nt KA VA,.nt VA KB] (.nl KC VA) [0,1,1] rfl (FW h0) w4)) λw4=>(qD [.nt KB VA] (.nl KC VA) rfl w4))) hx hb hf,h'.fr x (Or.elim (Wh h0) (λw3=>(zI [.nt VA KA] (.nl KC VA) [0,1] rfl w3)) λw3=>(Or.elim (Wh h1) (λw4=>(zI [.nt KA VA,.nt VA KB] (.nl KC VA) [0,1,1] rfl (FW h0) w4)) λw4=>(qD [.nt KB VA] (.nl KC VA) rfl w4))) hx hb hf]
 ·rw [W2 (by rw [h.len];exact (Wg hx)),W2 (by rw [h'.len];exact (Wg hx))]
theorem zn: ∀{t:List Int},x ∉ cs->(zK v t cs)[x]? =t[x]? :=by
 induction cs with
 |nil=>
  exact @λoo oo=>rfl
 |cons c r ih=>
  exact @λt h=>by
   show (zK v (t.set c v) r)[x]? =_
   rw [ih (λm=>h (.tail _ m)),WO (λe=>h (by rw [e];exact .head _))]
theorem wU: ∀{t:List Int},x∈cs->x<t.length->(zK v t cs)[x]? =some v:=by
 induction cs with
 |nil=>exact @λoo h=>(yI h).elim
 |cons c r ih=>
  exact @λt h hl=>by
   show (zK v (t.set c v) r)[x]? =_
   by_cases hr:x∈r
   ·exact ih hr (by rw [Bj];exact hl)
   ·rcases yy.mp h with rfl|h
    ·rw [zn hr,Df hl]
    ·exact absurd h hr
theorem jl: ∀{ms:List Int} {t:List Int},x ∉ css.flatten->(qY t css ms)[x]? =t[x]? :=by
 induction css with
 |nil=>exact @λoo oo oo=>rfl
 |cons c r ih=>
  exact @λms t h=>by
   cases ms with
   |nil=>rfl
   |cons m ms=>
    rw [Wa,yR,not_or] at h
    show (qY (qJ m c t c.length) r ms)[x]? =_
    rw [ih h.2,Qe h.1 (yM _)]
theorem J2 {k:Nat}: ∀{css:List (List Nat)} {ms:List Int} {t:List Int},css.flatten.Nodup->(∀x∈css.flatten,x<t.length)->∀{c m},css[k]? =some c->ms[k]? =some m->∀{j x:Nat},c[j]? =some x->(qY t css ms)[x]? =some (nx m c j):=by
 induction k with
 |zero=>
  intro css ms t nd hl c m e1 e2 j x e3
  rcases css with _|⟨a,r⟩
  ·cases e1
  rcases ms with _|⟨b,ms⟩
  ·cases e2
  cases e1;cases e2
  rw [Wa,Wm] at nd
  have hx:x∈c:=yC e3
  show (qY (qJ m c t c.length) r ms)[x]? =_
  rw [jl (λhr=>nd.2.2 x hx x hr rfl),Z6 nd.1 (λy hy=>hl y (by rw [Wa];exact yA _ hy)) e3 (yM _) (qw e3)]
 |succ k ih=>
  intro css ms t nd hl c m e1 e2 j x e3
  rcases css with _|⟨a,r⟩
  ·cases e1
  rcases ms with _|⟨b,ms⟩
  ·cases e2
  rw [Wa,Wm] at nd
  show (qY (qJ b a t a.length) r ms)[x]? =_
  exact ih nd.2.1 (λy hy=>by rw [zo];exact hl y (by rw [Wa];exact yx _ hy)) (c:=c) (m:=m) e1 e2 e3
theorem jE {kd:Int} (B:zS n bads) (w:WF n kd bads css marks):zh n (kTp kd) bads css marks (qY (xj n (kTp kd) bads) css marks):=by
 have l0:(xj n (kTp kd) bads).length=n:=Z9 (by have:=B.n9;exact (lg0 this.1 rfl))
 have nb: ∀x,x∈bads->x ∉ css.flatten:=λx hx hf=>(w.rng x hf).2.2 hx
 have lw: ∀x,x<2->x ∉ bads:=λx h hb=>by have:=B.rng x hb;exact (zI [.nt VA KC,.nl KC VA] .ff [0,1,1] rfl h this.1)
 have g: ∀x,x<2->x ∉ css.flatten:=λx h hb=>by have:=w.rng x hb;exact (zI [.nt VA KC,.nl KC VA] .ff [0,1,1] rfl h this.1)
 have r0:((kTp kd - 7)::kTp kd::Wo (n - 2) (0:Int)).length=n:=by rw [WE,WE,BZ];have:=B.n9;exact (zH [.ne (.a VA KC) VB] (.ne (.a (.a VA KB) KB) VB) [1,-1] [1,1] rfl (yn (lg0 this.1 rfl)))
 refine ⟨by rw [Zi,l0],?_,?_,λb hb=>?_,λk c m e1 e2 j x e3=>?_,λx h2 hn hb hf=>?_⟩
 ·rw [jl (g 0 (by decide))];unfold xj;rw [zn (lw 0 (by decide))];rfl
 ·rw [jl (g 1 (by decide))];unfold xj;rw [zn (lw 1 (by decide))];rfl
 ·rw [jl (nb b hb)];unfold xj;exact wU hb (by rw [r0];exact (B.rng b hb).2)
 ·exact J2 w.nd (λy hy=>by rw [l0];exact (w.rng y hy).2.1) e1 e2 e3
 ·rw [jl hf];unfold xj;rw [zn hb]
  obtain ⟨y,rfl⟩: ∃y,x=y+2:=(qx (x - 2) (by exact (zH [.ne (.a VA KC) VB] (.ne VB (.a VA KC)) [1,1] [1,-1] rfl (yn h2))))
  rw [W3,W3,List.getElem?_replicate,if_pos (by exact (qQ [.nt (.a VA KC) VB,.ne (.a VC KC) VB] (.nt VA VC) [1,1,-1] rfl hn (yn (qq [.nt (.a VA KC) VB] (.nl KC VB) rfl hn))))]
section
variable {n:Nat} {kd:Int} {bads:List Nat} {css:List (List Nat)} {marks:List Int} {T:List Int}
theorem zh.chain (h:zh n (kTp kd) bads css marks T) (w:WF n kd bads css marks) {k:Nat} (e1:css[k]? =some c) (e2:marks[k]? =some m):Ch T m c:=
 km.mpr (qa (w.ne c (yC e1)) (λj x e=>h.ch k c m e1 e2 j x e))
theorem zh.used (h:zh n (kTp kd) bads css marks T) (B:zS n bads) (w:WF n kd bads css marks) (hx:x∈css.flatten): ∃v,T[x]? =some v/\v≠0/\v≠kTp kd - 8:=by
 refine wh (Xh hx) λk oo j c e1 e2=>?_
 refine qA (kj w.len e1) λm em=>?_
 refine qj _ (h.ch k c m e1 em j x e2) ?_
 have hk:=ky (kd:=kd)
 have hn:=B.n9
 unfold nx
 cases hd:c[j+1]? with
 |some d=>
  have:=w.rng d (kK e1 hd)
  dsimp only
  exact qa (λz0=>(zI [.nl KC VA,.ze (.c VA) UA] .ff [0,1,1] rfl this.1 z0)) (λz0=>(wF [.zl UQ ZA,.nl VA KK,.nt VB VA,.ze (.c VB) (.s ZA UI)] .ff [0,1,1,1,-1] rfl hk hn.2 this.2.1 z0))
 |none=>
  have:=w.mks m (yC em)
  dsimp only
  rcases this with ⟨h1,h2⟩|h2
  ·rw [Qd h1];exact qa (λz0=>(kL [.ze ZA (.k 4080),.ze ZA UA] .ff [0,-1,1] rfl h2 z0)) (λz0=>(kL [.ze ZA (.k 4080),.ze ZA (.s UQ UI)] .ff [0,1,-1] rfl h2 z0))
  ·exact qa (λz0=>(vt [.zl UQ ZA,.zl (.s ZA UH) ZB,.ze ZB UA] .ff [0,1,1,1] rfl hk h2.1 z0)) (λz0=>(vt [.zl (.s ZA UH) ZB,.ze ZB (.s ZA UI)] .ff [0,1,1] rfl h2.1 z0))
theorem zh.zero (h:zh n (kTp kd) bads css marks T) (B:zS n bads) (w:WF n kd bads css marks) (h2:2<=x) (e:T[x]? =some 0):x<n/\x ∉ bads/\x ∉ css.flatten:=by
 have hk:=ky (kd:=kd)
 refine qy (h.len ▸ qw e) (λhb=>?_) (λhf=>?_)
 ·have:=h.bad x hb
  rw [e] at this
  have:=Wc.inj this;exact (kL [.zl UQ ZA,.ze UA (.s ZA UI)] .ff [0,1,-1] rfl hk this)
 ·refine zk (h.used B w hf) λv e' h1 oo=>?_
  rw [e] at e'
  exact h1 (Wc.inj e').symm
end
set_option tactic.hygienic true in
theorem Z5 {α:Type} {A B:List α} {c:α}:(A++c::B)[if k<A.length then k else k+1]? =(A++B)[k]? :=by
 split
 ·rename_i h;rw [Ww h,Ww h]
 ·rename_i h;rw [Wn (by exact (qq [.nl VA VB] (.nl VA (.a VB KB)) rfl (Wg h))),Wn (by exact (Wg h)),show k+1 - A.length=(k - A.length)+1 by exact (jA [.ne (.a VA VB) (.a VC KB),.ne (.a VD VB) VC] (.ne VA (.a VD KB)) [1,-1,1] [1,1,-1] rfl (yn (qq [.nl VA VB] (.nl VA (.a VB KB)) rfl (Wg h))) (yn (Wg h))),W3]
theorem Zg {α:Type} {A B:List α} {c c':α} (h:k≠A.length):(A++c'::B)[k]? =(A++c::B)[k]? :=by
 refine Or.elim (W5 k A.length) (λh'=>?_) λh'=>?_
 ·rw [Ww h',Ww h']
 ·obtain ⟨j,rfl⟩: ∃j,k=A.length+(j+1):=(qx (k - A.length - 1) (by exact (Or.elim (Wh h) (λw1=>(xJ [.nl VA VB,.nt VB VA] (.ne VB (.a VA (.a VC KB))) [0,1,1] [1,0,1] rfl h' w1)) λw1=>(jA [.ne (.a VA KB) VB,.ne (.a VB VC) VD] (.ne VD (.a VC (.a VA KB))) [1,1,1] [1,-1,-1] rfl (yn (qQ [.nt VA VB,.ne (.a VC VA) VB] (.nl KB VC) [1,1,-1] rfl w1 (yn h'))) (yn h')))))
  rw [Wn (by exact h'),Wn (by exact h'),show A.length+(j+1) - A.length=j+1 by exact (xJ [.ne (.a VA VB) (.a VB (.a VC KB))] (.ne VA (.a VC KB)) [1,-1] [1,1] rfl (yn h')),W3,W3]
theorem zL {α:Type} {A B:List α} {c:α}:(A++c::B)[A.length]? =some c:=by
 rw [Wn (yM _),Hq];rfl
theorem kp {c:List Nat}:(A++c::B).flatten=A.flatten++(c++B.flatten):=by rw [Wy,Wa]
section
variable {n:Nat} {kd:Int} {bads:List Nat} {A B:List (List Nat)} {c:List Nat} {MA MB:List Int} {m:Int} {T:List Int}
theorem apart (nd:(A++c::B).flatten.Nodup) (hx:x∈c):x ∉ (A++B).flatten:=by
 rw [kp,Wm] at nd
 refine qZ nd λn1 n2 n3=>?_
 rw [Wm] at n2
 rw [Wy,yR]
 rintro (h|h)
 ·exact n3 x h x (yA _ hx) rfl
 ·exact n2.2.2 x hx x h rfl
theorem qV:x∈(A++c::B).flatten↔x∈c\/x∈(A++B).flatten:=by
 rw [kp,Wy]
 simp only [yR]
 constructor
 ·rintro (h|h|h)
  ·exact .inr (.inl h)
  ·exact .inl h
  ·exact .inr (.inr h)
 ·rintro (h|h|h)
  ·exact .inr (.inl h)
  ·exact .inl h
  ·exact .inr (.inr h)
theorem xw:(A++c::B).flatten.Nodup↔c.Nodup/\(A++B).flatten.Nodup/\∀x∈c,x ∉ (A++B).flatten:=by
 have p:(A++c::B).flatten.Perm (c++(A++B).flatten):=by
  rw [kp,Wy,<- yG,<- yG]
  exact WA.append_right _
 rw [p.nodup_iff,Wm]
 exact ⟨λzf=>zf.elim λh1 zf=>zf.elim λh2 h3=>(qy h1 h2 (λx hx g=>h3 x hx x g rfl)),λzf=>zf.elim λh1 zf=>zf.elim λh2 h3=>(qy h1 h2 (λx hx y hy e=>h3 x hx (e ▸ hy)))⟩
theorem WF.free (w:WF n kd bads (A++c::B) (MA++m::MB)) (hl:A.length=MA.length):WF n kd bads (A++B) (MA++MB):=by
 refine ⟨?_,λd hd=>w.ne d ?_,λx hx=>w.rng x (qV.mpr (.inr hx)),(xw.mp w.nd).2.1,λy hy=>w.mks y ?_⟩
 ·have:=w.len
  rw [yS,yS,WE,WE] at this
  rw [yS,yS];exact (jA [.ne (.a VA (.a VB KB)) (.a VC (.a VD KB))] (.ne (.a VA VB) (.a VC VD)) [1,-1] [1,1] rfl this)
 ·refine Or.elim (yR.mp hd) (λh=>?_) λh=>?_
  ·exact yA _ h
  ·exact yx _ (.tail _ h)
 ·refine Or.elim (yR.mp hy) (λh=>?_) λh=>?_
  ·exact yA _ h
  ·exact yx _ (.tail _ h)
theorem Xv (Bo:zS n bads) (w:WF n kd bads (A++c::B) (MA++m::MB)) (hl:A.length=MA.length) (h:zh n (kTp kd) bads (A++c::B) (MA++m::MB) T):zK 0 T c=qY (xj n (kTp kd) bads) (A++B) (MA++MB):=by
 have w':=w.free hl
 refine Xl w'.len ?_ (jE Bo w')
 have rc: ∀x∈c,2<=x/\x<n/\x ∉ bads:=λx hx=>w.rng x (qV.mpr (.inl hx))
 refine ⟨by rw [jB,h.len],?_,?_,λb hb=>?_,λk c' m' e1 e2 j x e3=>?_,λx h2 hn hb hf=>?_⟩
 ·rw [zn λhx=>by have:=rc _ hx;exact (LB [] [] [.nl KC KA] .ff [0,1] rfl this.1)];exact h.t0
 ·rw [zn λhx=>by have:=rc _ hx;exact (LB [] [] [.nl KC KB] .ff [0,1] rfl this.1)];exact h.t1
 ·rw [zn λhx=>(rc _ hx).2.2 hb];exact h.bad b hb
 ·have hx:x ∉ c:=λhx=>apart w.nd hx (kK e1 e3)
  rw [zn hx]
  rw [<- Z5 (c:=c)] at e1
  rw [<- Z5 (c:=m),<- hl] at e2
  exact h.ch _ c' m' e1 e2 j x e3
 ·by_cases hx:x∈c
  ·exact wU hx (by rw [h.len];exact hn)
  ·rw [zn hx]
   exact h.fr x h2 hn hb λg=>by refine Or.elim (qV.mp g) (λh'=>?_) λh'=>?_;exact hx h';exact hf h'
theorem WF.new (Bo:zS n bads) (w:WF n kd bads css marks) (h:zh n (kTp kd) bads css marks T) (h0:fl≠[]) (nd:fl.Nodup) (hz: ∀x∈fl,2<=x/\T[x]? =some 0):WF n kd bads (css++[fl]) (marks++[kTp kd]):=by
 have hq: ∀x∈fl,x<n/\x ∉ bads/\x ∉ css.flatten:=λx hx=>h.zero Bo w (hz x hx).1 (hz x hx).2
 have e:(css++[fl]).flatten=css.flatten++fl:=by rw [Wy];simp
 refine ⟨by rw [yS,yS,w.len];rfl,λd hd=>?_,λx hx=>?_,?_,λy hy=>?_⟩
 ·refine Or.elim (yR.mp hd) (λh=>?_) λh=>?_
  ·exact w.ne d h
  ·rw [yN.mp h];exact h0
 ·rw [e] at hx
  refine Or.elim (yR.mp hx) (λh=>?_) λh=>?_
  ·exact w.rng x h
  ·exact qy ((hz x h).1) ((hq x h).1) ((hq x h).2.1)
 ·rw [e,Wm]
  exact qy w.nd nd (λx hx y hy q=>(hq y hy).2.2 (q ▸ hx))
 ·refine Or.elim (yR.mp hy) (λh=>?_) λh=>?_
  ·exact w.mks y h
  ·rw [yN.mp h];exact .inr (qa (za [] (.zl (.s ZA UH) ZA) rfl) (Bk _))
theorem WF.ext (Bo:zS n bads) (w:WF n kd bads (A++c::B) (MA++m::MB)) (h:zh n (kTp kd) bads (A++c::B) (MA++m::MB) T) (nd:fl.Nodup) (hz: ∀x∈fl,2<=x/\T[x]? =some 0):WF n kd bads (A++(c++fl)::B) (MA++kTp kd::MB):=by
 have hq: ∀x∈fl,x<n/\x ∉ bads/\x ∉ (A++c::B).flatten:=λx hx=>h.zero Bo w (hz x hx).1 (hz x hx).2
 refine qZ (xw.mp w.nd) λn1 n2 n3=>?_
 refine ⟨?_,λd hd=>?_,λx hx=>?_,xw.mpr (qy ?_ n2 (λx hx g=>?_)),λy hy=>?_⟩
 ·have:=w.len
  simp only [yS,WE] at this |-;exact this
 ·refine Or.elim (yR.mp hd) (λh=>?_) λh=>?_
  ·exact w.ne d (yA _ h)
  ·rcases yy.mp h with rfl|h
   ·have:=w.ne c (yx _ (.head _))
    exact λe=>this (List.append_eq_nil_iff.mp e).1
   ·exact w.ne d (yx _ (.tail _ h))
 ·refine Or.elim (qV.mp hx) (λh'=>?_) λh'=>?_
  ·refine Or.elim (yR.mp h') (λh'=>?_) λh'=>?_
   ·exact w.rng x (qV.mpr (.inl h'))
   ·exact qy ((hz x h').1) ((hq x h').1) ((hq x h').2.1)
  ·exact w.rng x (qV.mpr (.inr h'))
 ·rw [Wm]
  exact qy n1 nd (λx hx y hy q=>(hq y hy).2.2 (qV.mpr (.inl (q ▸ hx))))
 ·refine Or.elim (yR.mp hx) (λh'=>?_) λh'=>?_
  ·exact n3 x h' g
  ·exact (hq x h').2.2 (qV.mpr (.inr g))
 ·refine Or.elim (yR.mp hy) (λh'=>?_) λh'=>?_
  ·exact w.mks y (yA _ h')
  ·rcases yy.mp h' with rfl|h'
   ·exact .inr (qa (za [] (.zl (.s ZA UH) ZA) rfl) (Bk _))
   ·exact w.mks y (yx _ (.tail _ h'))
theorem vB (Bo:zS n bads) (w:WF n kd bads (A++c::B) (MA++m::MB)) (hl:A.length=MA.length) (h:zh n (kTp kd) bads (A++c::B) (MA++m::MB) T) (h0:fl≠[]) (nd:fl.Nodup) (hz: ∀x∈fl,2<=x/\T[x]? =some 0) (C:c[c.length - 1]? =some last):
  (qJ (kTp kd) fl T fl.length).set last ((fl.getD 0 0:Nat):Int)=qY (xj n (kTp kd) bads) (A++(c++fl)::B) (MA++kTp kd::MB):=by
 have w':=w.ext Bo h nd hz
 have hq: ∀x∈fl,x<n/\x ∉ bads/\x ∉ (A++c::B).flatten:=λx hx=>h.zero Bo w (hz x hx).1 (hz x hx).2
 have rc: ∀x∈c,2<=x/\x<n/\x ∉ bads:=λx hx=>w.rng x (qV.mpr (.inl hx))
 have u:last∈c:=yC C
 refine qZ (xw.mp w.nd) λn1 n2 n3=>?_
 have X: ∀x∈c,x ∉ fl:=λx hx I=>(hq x I).2.2 (qV.mpr (.inl hx))
 have keep: ∀{x:Nat},x ∉ fl->x≠last->((qJ (kTp kd) fl T fl.length).set last ((fl.getD 0 0:Nat):Int))[x]? =T[x]? :=λh1 h2=>by
  rw [WO (Ne.symm h2),Qe h1 (yM _)]
 have J:=Y0 (top:=kTp kd) (h.chain w (k:=A.length) (c:=c) (m:=m) zL (hl ▸ zL)) n1 nd X (λx hx=>by rw [h.len];exact (hq x hx).1) C h0
 refine Xl w'.len ?_ (jE Bo w')
 refine ⟨by rw [Bj,zo,h.len],?_,?_,λb hb=>?_,λk c' m' e1 e2 j x e3=>?_,λx h2 hn hb hf=>?_⟩
 ·rw [keep (λhx=>by have:=hz _ hx;exact (LB [] [] [.nl KC KA] .ff [0,1] rfl this.1)) (λe=>by have:=rc _ u;exact (zI [.ne KA VA,.nl KC VA] .ff [0,-1,1] rfl e this.1))];exact h.t0
 ·rw [keep (λhx=>by have:=hz _ hx;exact (LB [] [] [.nl KC KB] .ff [0,1] rfl this.1)) (λe=>by have:=rc _ u;exact (zI [.ne KB VA,.nl KC VA] .ff [0,-1,1] rfl e this.1))];exact h.t1
 ·rw [keep (λhx=>(hq _ hx).2.1 hb) (λe=>(rc _ u).2.2 (e ▸ hb))];exact h.bad b hb
 ·by_cases hk:k=A.length
  ·subst hk
   rw [zL] at e1
   rw [hl,zL] at e2
   obtain rfl:=Wc.inj e1;obtain rfl:=Wc.inj e2
   exact (km.mp J).2 j x e3
  ·rw [Zg (c:=c) hk] at e1
   rw [Zg (c:=m) (by rwa [<- hl])] at e2
   have hx:x∈(A++B).flatten:=by
    refine Or.elim (W5 k A.length) (λg=>?_) λg=>?_
    ·rw [Ww g] at e1
     rw [Wy]
     exact yA _ (kK e1 e3)
    ·obtain ⟨i,rfl⟩: ∃i,k=A.length+(i+1):=(qx (k - A.length - 1) (by exact (Or.elim (Wh hk) (λw2=>(xJ [.nl VA VB,.nt VB VA] (.ne VB (.a VA (.a VC KB))) [0,1,1] [1,0,1] rfl g w2)) λw2=>(jA [.ne (.a VA KB) VB,.ne (.a VB VC) VD] (.ne VD (.a VC (.a VA KB))) [1,1,1] [1,-1,-1] rfl (yn (qQ [.nt VA VB,.ne (.a VC VA) VB] (.nl KB VC) [1,1,-1] rfl w2 (yn g))) (yn g)))))
     rw [Wn (by exact g),show A.length+(i+1) - A.length=i+1 by exact (xJ [.ne (.a VA VB) (.a VB (.a VC KB))] (.ne VA (.a VC KB)) [1,-1] [1,1] rfl (yn g)),W3] at e1
     rw [Wy]
     exact yx _ (kK e1 e3)
   rw [keep (λhf=>(hq x hf).2.2 (qV.mpr (.inr hx))) (λe=>n3 last u (e ▸ hx))]
   exact h.ch k c' m' e1 e2 j x e3
 ·have F:x ∉ fl/\x ∉ c/\x ∉ (A++B).flatten:=(qy (λq=>hf (qV.mpr (.inl (yx _ q)))) (λq=>hf (qV.mpr (.inl (yA _ q)))) (λq=>hf (qV.mpr (.inr q))))
  rw [keep F.1 (λe=>F.2.1 (e ▸ u))]
  exact h.fr x h2 hn hb λq=>by refine Or.elim (qV.mp q) (λq=>?_) λq=>?_;exact F.2.1 q;exact F.2.2 q
end
structure xe (low n:Nat) (ps:List (List UInt8)):Prop where
 len:ps.length=n+1
 p0:(ps.getD 0 []).length=low
 p1:ps.getD 1 []=[]
 pc: ∀c,2<=c->c<=n->(ps.getD c []).length=4
noncomputable abbrev z4:List UInt8:=[0,0,0,0]
section
variable {low n:Nat} {ps:List (List UInt8)}
theorem wl {α:Type} {l:List α} {d:α} (h:c<l.length):l[c]? =some (l.getD c d):=by
 rw [We,yw h];rfl
theorem xe.pre (h:xe low n ps) (hn:2<=n): ∀{c:Nat},2<=c->c<=n+1->(ps.take c).flatten.length=plc low c:=by
 intro c
 induction c with
 |zero=>intro h2;exact (λy2=>(qM [.nl KC KA] (.ne VA VB) [0,1] rfl h2))
 |succ c ih=>
  intro h2 hc
  have e:ps.take (c+1)=ps.take c++[ps.getD c []]:=zy (wl (by rw [h.len];exact (qq [.nl (.a VA KB) (.a VB KB)] (.nt VA (.a VB KB)) rfl hc)))
  rw [e,Wy,yS]
  by_cases h1:c=1
  ·subst h1
   have e0:ps.take 1=ps.take 0++[ps.getD 0 []]:=zy (wl (by rw [h.len];exact (qD [] (.nt KA (.a VA KB)) rfl)))
   rw [e0,h.p1]
   have h0:=h.p0
   rw [We] at h0
   simp [h0,plc]
  ·rw [ih (Or.elim (Wh h1) (λw3=>(zI [.nl KC (.a VA KB),.nt VA KB] (.nl KC VA) [0,1,1] rfl h2 w3)) λw3=>(qD [.nt KB VA] (.nl KC VA) rfl w3)) (qq [.nl (.a VA KB) (.a VB KB)] (.nl VA (.a VB KB)) rfl hc)]
   simp only [Wa,Bt,Wq]
   rw [h.pc c (Or.elim (Wh h1) (λw3=>(zI [.nl KC (.a VA KB),.nt VA KB] (.nl KC VA) [0,1,1] rfl h2 w3)) λw3=>(qD [.nt KB VA] (.nl KC VA) rfl w3)) (qq [.nl (.a VA KB) (.a VB KB)] (.nl VA VB) rfl hc)]
   unfold plc;exact (Or.elim (Wh h1) (λw3=>(jA [.ne (.a VA KC) VB,.ne (.a VC KC) (.a VB KB)] (.ne (.a (.a VD (.m 4 VA)) KF) (.a VD (.m 4 VC))) [1,-4,4] [1,4,-4] rfl (yn (zI [.nl KC (.a VA KB),.nt VA KB] (.nl KC VA) [0,1,1] rfl h2 w3)) (yn h2))) λw3=>(jA [.ne (.a VA KC) VB,.ne (.a VC KC) (.a VB KB)] (.ne (.a (.a VD (.m 4 VA)) KF) (.a VD (.m 4 VC))) [1,-4,4] [1,4,-4] rfl (yn (qD [.nt KB VA] (.nl KC VA) rfl w3)) (yn h2)))
theorem xe.split (h:xe low n ps) (hc:c<=n):ps.flatten=(ps.take c).flatten++(ps.getD c []++(ps.drop (c+1)).flatten):=by
 have e:ps=ps.take c++ps.getD c []::ps.drop (c+1):=by
  have hl:c<ps.length:=by rw [h.len];exact (qq [.nl VA VB] (.nt VA (.a VB KB)) rfl hc)
  rw [We,yw hl,He,D6,Fj]
 rw [<- Wa,<- Wy,<- e]
theorem xe.total (h:xe low n ps) (hn:2<=n):ps.flatten.length=low+4*(n - 1):=by
 have:=h.pre hn (c:=n+1) (by exact (qD [.nl KC VA] (.nl KC (.a VA KB)) rfl hn)) (yM _)
 rw [WP (by rw [h.len];exact yM _)] at this
 rw [this];unfold plc;exact (jA [.ne (.a VA KC) (.a VB KB),.ne (.a VC KB) VB] (.ne (.a VD (.m 4 VA)) (.a VD (.m 4 VC))) [1,-4,4] [1,4,-4] rfl (yn (qD [.nl KC VA] (.nl KC (.a VA KB)) rfl hn)) (yn (lg0 hn rfl)))
theorem xe.set (h:xe low n ps) (hc:2<=c) (hy:y.length=4):xe low n (ps.set c y):=by
 have g: ∀j,j≠c->(ps.set c y).getD j []=ps.getD j []:=λj hj=>by
  rw [We,We,WO (Ne.symm hj)]
 refine ⟨by rw [Bj,h.len],by rw [g 0 (λz0=>(zI [.nl KC VA,.ne KA VA] .ff [0,1,-1] rfl hc z0))];exact h.p0,by rw [g 1 (λz0=>(zI [.nl KC VA,.ne KB VA] .ff [0,1,-1] rfl hc z0))];exact h.p1,λj h2 hj=>?_⟩
 by_cases e:j=c
 ·subst e
  rw [We,Df (by rw [h.len];exact (qq [.nl VA VB] (.nt VA (.a VB KB)) rfl hj))];exact hy
 ·rw [g j e];exact h.pc j h2 hj
theorem xe.wr (h:xe low n ps) (hn:2<=n) (h2:2<=c) (hc:c<=n) (hx:x.length<=4):Mine.Internal.wr ps.flatten (plc low c) x=(ps.set c (x++(ps.getD c []).drop x.length)).flatten:=by
 have hp:=h.pre hn h2 (qq [.nl VA VB] (.nl VA (.a VB KB)) rfl hc)
 have h4:=h.pc c h2 hc
 have e:=h.split hc
 have hl:c<ps.length:=by rw [h.len];exact (qq [.nl VA VB] (.nt VA (.a VB KB)) rfl hc)
 rw [List.set_eq_take_append_cons_drop,if_pos hl,Wy,Wa]
 unfold Mine.Internal.wr
 rw [e,<- hp,HK,yG]
 congr 1
 rw [<- HL,List.drop_left,Fy (by exact (qM [.nl VA KF,.ne VB KF] (.nl VA VB) [1,1,-1] rfl hx h4)),yG]
theorem xe.read (h:xe low n ps) (hn:2<=n) (h2:2<=c) (hc:c<=n):(ps.flatten.drop (plc low c)).take 4=ps.getD c []:=by
 have hp:=h.pre hn h2 (qq [.nl VA VB] (.nl VA (.a VB KB)) rfl hc)
 have h4:=h.pc c h2 hc
 rw [h.split hc,<- hp,List.drop_left,<- h4,HK]
noncomputable def zP (ps:List (List UInt8)) (cs:List Nat):List (List UInt8):=cs.foldl (λps c=>ps.set c z4) ps
theorem JP:zP ps (cs++[c])=(zP ps cs).set c z4:=D3
theorem xe.zP: ∀{ps:List (List UInt8)},xe low n ps->(∀c∈cs,2<=c)->xe low n (Mine.Internal.zP ps cs):=by
 induction cs with
 |nil=>exact @λoo h oo=>h
 |cons c r ih=>exact @λps h hc=>ih (ps:=ps.set c z4) (h.set (hc c (.head _)) rfl) λx hx=>hc x (.tail _ hx)
theorem xe.zer (h:xe low n ps) (hn:2<=n) (hf: ∀c∈fl,2<=c/\c<=n):j<=fl.length->zq low fl ps.flatten j=(Mine.Internal.zP ps (fl.take j)).flatten:=by
 induction j with
 |zero=>
  intro _
  exact rfl
 |succ j ih=>
  intro hj
  have g:j<fl.length:=hj
  have hc:=yw g
  have hm:=hf _ (BJ g)
  have hP:xe low n (Mine.Internal.zP ps (fl.take j)):=h.zP λc hc=>(hf c (Dy hc)).1
  rw [Zr,ih (yV g),zd hc,hP.wr hn hm.1 hm.2 (by decide),zy hc,JP]
  have h4:=hP.pc _ hm.1 hm.2
  rw [show z4.length=4 from rfl,D7 (by exact (qD [.ne VA KF] (.nl VA KF) rfl h4)),Wq]
noncomputable def wP (er:Bool) (new:List UInt8) (ps:List (List UInt8)) (seg:List Nat) (j:Nat):List (List UInt8):=Fz ps (λj r=>r.set (seg.getD j 0) ((new.drop (4*j)).take 4++(if er then z4 else r.getD (seg.getD j 0) []).drop ((new.drop (4*j)).take 4).length)) j
theorem wP_c:wP er new ps seg (j+1)=(wP er new ps seg j).set (seg.getD j 0) ((new.drop (4*j)).take 4++(if er then z4 else (wP er new ps seg j).getD (seg.getD j 0) []).drop ((new.drop (4*j)).take 4).length):=rfl
theorem JC {er:Bool} {new y:List UInt8} (hy:y.length=4):((new.drop (4*j)).take 4++(if er then z4 else y).drop ((new.drop (4*j)).take 4).length).length=4:=by
 have:=kY (l:=new) (a:=4*j)
 rw [yS,Ws]
 cases er
 ·show _+(y.length - _)=4;exact (xJ [.ne VA KF,.ne (.a VB VC) VA] (.ne (.a VC VB) KF) [1,-1,-1] [1,1,1] rfl hy (yn (qM [.ne VA KF,.nl VB KF] (.nl VB VA) [1,-1,1] rfl hy this)))
 ·show _+(4 - _)=4;exact (zH [.ne (.a VA VB) KF] (.ne (.a VB VA) KF) [1,-1] [1,1] rfl (yn this))
theorem xe.wP (h:xe low n ps) (hs: ∀c∈seg,2<=c/\c<=n):j<=seg.length->xe low n (Mine.Internal.wP er new ps seg j):=by
 induction j with
 |zero=>exact λoo=>h
 |succ j ih=>
  intro hj
  have g:j<seg.length:=hj
  have hm:=hs _ (BJ g)
  have hP:=ih (yV g)
  rw [Mine.Internal.wP_c,zd (yw g)]
  exact hP.set hm.1 (JC (hP.pc _ hm.1 hm.2))
theorem Uu (h:4*j+4<=new.length+k):((new++Wo k 0).drop (4*j)).take 4=(new.drop (4*j)).take 4++z4.drop ((new.drop (4*j)).take 4).length:=by
 have z: ∀m:Nat,m<=4->z4.drop m=Wo (4 - m) 0:=λm hm=>by
  rcases m with _|_|_|_|_|m<;>first|rfl|exact absurd hm (Nat.not_le.mpr (Nat.le_add_left 5 m))
 rw [z _ kY,List.drop_append,List.take_append,Wx,Ws]
 congr 1
 rw [List.drop_replicate,List.take_replicate]
 congr 1
 rw [Wz (by rcases Nat.le_total (4*j) new.length with h5|h5<;>rw [Fh h5]<;>(first|lia|omega))]
 refine Or.elim (Nat.le_total 4 (new.length - 4*j)) (λh4=>?_) λh4=>?_
 ·rw [Wz h4];exact (zH [.ne VA KA,.ne (.a VB KF) KF] (.ne VA VB) [1,0,1] [1,1,0] rfl (Fh h4) (yn (LB [] [] [] (.nl KF KF) [1] rfl)))
 ·rw [B5 h4]
theorem xe.wrTo (h:xe low n ps) (hn:2<=n) (hs: ∀c∈seg,2<=c/\c<=n) (hN:new.length<=4*need) (u:need<=seg.length):j<=need->Mine.Internal.wrTo low seg (ww er need new) ps.flatten j=(Mine.Internal.wP er new ps seg j).flatten:=by
 induction j with
 |zero=>
  intro _
  exact rfl
 |succ j ih=>
  intro hj
  have g:j<seg.length:=by exact (qR [.nl VA VB,.nl (.a VC KB) VA] (.nt VC VB) rfl u hj)
  have hm:=hs _ (BJ g)
  have hP:=h.wP (er:=er) (new:=new) hs (yV g)
  have h4:=hP.pc _ hm.1 hm.2
  rw [Mine.Internal.wrTo_c,ih (yV hj),zd (yw g),hP.wr hn hm.1 hm.2 kY,Mine.Internal.wP_c,zd (yw g)]
  congr 2
  unfold ww
  cases er
  ·rfl
  ·rw [if_pos rfl,if_pos rfl,Uu (k:=4*need - new.length) (by exact (zN [.nl (.a VA KB) VB,.ne (.a VC VD) (.m 4 VB)] (.nl (.a (.m 4 VA) KF) (.a VD VC)) [1,4,-1] rfl hj (yn hN)))]
   have:=JC (er:=true) (new:=new) (y:=z4) (j:=j) rfl
   rw [if_pos rfl] at this
   rw [this,D7 (l:=(Mine.Internal.wP true new ps seg j).getD seg[j] []) (by exact (qD [.ne VA KF] (.nl VA KF) rfl h4)),Wq]
theorem vx (hl:ps.length=ps'.length) (h: ∀x,x ∉ seg->ps[x]? =ps'[x]?):wP true new ps seg seg.length=wP true new ps' seg seg.length:=by
 have len: ∀(ps:List (List UInt8)) (j:Nat),(wP true new ps seg j).length=ps.length:=λps j=>by
  induction j with
  |zero=>rfl
  |succ j ih=>rw [wP_c,Bj,ih]
 have C: ∀j,j<=seg.length->∀x,x ∉ seg.drop j->(wP true new ps seg j)[x]? =(wP true new ps' seg j)[x]? :=λj=>by
  induction j with
  |zero=>intro _ x hx;exact h x (by simpa using hx)
  |succ j ih=>
   intro hj x hx
   have u:j<seg.length:=hj
   have hd:seg.drop j=seg[j]::seg.drop (j+1):=(D6 u).symm
   rw [wP_c,wP_c,zd (yw u),if_pos rfl,if_pos rfl]
   by_cases e:seg[j]=x
   ·subst e
    rw [List.getElem?_set,List.getElem?_set,if_pos rfl,if_pos rfl,len,len,hl]
   ·rw [WO e,WO e]
    refine ih (yV u) x λg=>?_
    rw [hd] at g
    rcases yy.mp g with rfl|g
    ·exact e rfl
    ·exact hx g
 refine D1 λx=>C _ (yM _) x (by simp)
theorem uu: ∀{ps:List (List UInt8)},x ∉ cs->(zP ps cs)[x]? =ps[x]? :=by
 induction cs with
 |nil=>
  exact @λoo oo=>rfl
 |cons c r ih=>
  exact @λps h=>by
   show (zP (ps.set c z4) r)[x]? =_
   rw [ih (λm=>h (.tail _ m)),WO (λe=>h (by rw [e];exact .head _))]
theorem Jt: ∀{ps:List (List UInt8)},(zP ps cs).length=ps.length:=by
 induction cs with
 |nil=>exact @λoo=>rfl
 |cons c r ih=>exact @λps=>(ih (ps:=ps.set c z4)).trans Bj
end
def FF (n:Nat) (T:List Int) (ff:Nat):Prop:=ff<n/\∀c,2<=c->c<ff->T[c]?≠some 0
noncomputable abbrev rm (n:Nat) (T:List Int):List Nat:=frs T 2 (n - 2)
theorem wq:frs T a (m+k)=frs T a m++frs T (a+m) k:=by
 induction k with
 |zero=>show frs T a m=frs T a m++[];rw [Wq]
 |succ k ih=>rw [<- F1,xh,ih,xh,yG,F1]
theorem JO (h: ∀c,2<=c->a<=c->c<a+m->T[c]?≠some 0):frs T a m=[]:=by
 rw [Fw]
 intro c hc
 (refine qZ (kF hc) λh1 h2 g=>?_;refine qc g λh3 h4=>?_)
 exact h c h3 h1 h2 h4
theorem uO (hn:2<=n):rm n T=frs T 0 n:=by
 have:=wq (T:=T) (a:=0) (m:=2) (k:=n - 2)
 rw [show 2+(n - 2)=n by exact (zH [.ne (.a VA KC) VB] (.ne (.a KC VA) VB) [1,-1] [1,1] rfl (yn hn)),JO (m:=2) (λc h2 oo h=>absurd h (by exact (BK.mpr (qD [.nl KC VA] (.nl (.a KA KC) VA) rfl h2)))),DI,H7] at this
 exact this.symm
theorem jD (hn:2<=n) (h:FF n T ff):frs T ff (n - ff)=rm n T:=by
 rw [uO hn]
 have:=wq (T:=T) (a:=0) (m:=ff) (k:=n - ff)
 rw [show ff+(n - ff)=n by have:=h.1;exact (xJ [.ne (.a VA VB) VC] (.ne (.a VB VA) VC) [1,-1] [1,1] rfl (yn (yV this))),JO (m:=ff) (λc h2 oo hc=>h.2 c h2 (qq [.nt VA (.a KA VB)] (.nt VA VB) rfl hc)),DI,H7] at this
 exact this.symm
theorem wx (hn:2<=n) (h:FF n T ff) (h1:ff<=i) (h2:i<n) (hl:(frs T ff (i - ff)).length=nd):frs T ff (i - ff)=(rm n T).take nd:=by
 have:=wq (T:=T) (a:=ff) (m:=i - ff) (k:=n - i)
 rw [show i - ff+(n - i)=n - ff by exact (LA [_,_,_,_,_,_] [] [.ne (.a VA VB) VC,.ne (.a VD VC) VE,.ne (.a VF VB) VE] (.ne (.a VA VD) VF) [1,-1,-1,1] [1,1,1,-1] rfl (yn h1) (yn (yV h2)) (yn (qR [.nl VA VB,.nt VB VC] (.nl VA VC) rfl h1 h2))),jD hn h] at this
 rw [this,<- hl,HK]
theorem ZQ (h:c∈rm n T):2<=c/\T[c]? =some 0:=(qa ((kF h).2.2.1) ((kF h).2.2.2))
theorem Ql:(rm n T).Nodup:=Q8
section
variable {n:Nat} {kd:Int} {bads:List Nat} {css css':List (List Nat)} {marks marks':List Int} {T T':List Int}
theorem zh.lastNo (h:zh n (kTp kd) bads css marks T) (B:zS n bads):jU T (T.length - 1)=false:=by
 rw [h.len,jd (h.bad _ B.last) (by have:=B.n9;exact (qM [.nl KJ VA,.ne (.a VB KB) VA] (.nl KC VB) [1,1,-1] rfl this.1 (yn (lg0 this.1 rfl))))]
 exact decide_eq_false (by have:=ky (kd:=kd);exact (λz0=>(kL [.zl UQ ZA,.ze (.s ZA UI) UA] .ff [0,1,1] rfl this z0)))
theorem zh.less (B:zS n bads) (w:WF n kd bads css marks) (h:zh n (kTp kd) bads css marks T) (w':WF n kd bads css' marks') (h':zh n (kTp kd) bads css' marks' T') (hs: ∀x∈css.flatten,x∈css'.flatten) (h2:2<=x) (e:T'[x]? =some 0):T[x]? =some 0:=by
 refine qZ (h'.zero B w' h2 e) λa b c=>?_
 exact h.fr x h2 a b λq=>c (hs x q)
theorem FF.alloc (B:zS n bads) (w:WF n kd bads css marks) (h:zh n (kTp kd) bads css marks T) (w':WF n kd bads css' marks') (h':zh n (kTp kd) bads css' marks' T') (hf:FF n T ff) (h1:ff<=i) (h2:i<n) (hs: ∀x,x∈css.flatten\/x∈frs T ff (i - ff)->x∈css'.flatten):FF n T' i:=by
 refine qa h2 (λc c2 ci e=>?_)
 have ez:=zh.less B w h w' h' (λx hx=>hs x (.inl hx)) c2 e
 refine Or.elim (W5 c ff) (λhc=>?_) λhc=>?_
 ·exact hf.2 c c2 hc ez
 ·refine (h'.zero B w' c2 e).2.2 (hs c (.inr ?_))
  unfold frs
  rw [BY]
  refine qa (List.mem_range'.mpr (qj (c - ff) (LB [_,_,_,_,_] [] [.nt VA VB,.ne (.a VC VD) VA,.ne (.a VE VD) VB] (.nt VC VE) [1,1,1,-1] rfl ci (yn hc) (yn h1)) (xJ [.ne (.a VA VB) VC] (.ne VC (.a VB (.m 1 VA))) [1,1] [1,-1] rfl (yn hc)))) ?_
  rw [jd ez c2];rfl
noncomputable def lowsN (ff:Nat) (cs:List Nat):Nat:=cs.foldl (λa c=>min c a) ff
theorem Xo: ∀{ff:Nat},XX ((ff:Nat):Int) cs=((lowsN ff cs:Nat):Int):=by
 induction cs with
 |nil=>exact @λoo=>rfl
 |cons c r ih=>
  exact @λff=>by
   show XX (min (c:Int) (ff:Int)) r=_
   rw [show min (c:Int) (ff:Int)=((min c ff:Nat):Int) by (first|lia|omega)]
   exact ih
theorem U4: ∀{ff:Nat},lowsN ff cs<=ff/\∀c∈cs,lowsN ff cs<=c:=by
 induction cs with
 |nil=>
  exact @λoo=>(qa (yM _) (λoo h=>(yI h).elim))
 |cons c r ih=>
  exact @λff=>by
   have ih:=ih (ff:=min c ff)
   refine qa (yX ih.1 (Fc _ _)) (λx hx=>?_)
   rcases yy.mp hx with rfl|hx
   ·exact yX ih.1 (Ft _ _)
   ·exact ih.2 x hx
theorem FF.free (hf:FF n T ff):FF n (zK 0 T cs) (lowsN ff cs):=by
 have h:=U4 (cs:=cs) (ff:=ff)
 refine qa (WJ h.1 hf.1) (λc c2 hc=>?_)
 rw [zn λhm=>by have:=h.2 c hm;exact (qM [.nt VA VB,.nl VB VA] .ff [0,1,1] rfl hc this)]
 exact hf.2 c c2 (qR [.nl VA VB,.nt VC VA] (.nt VC VB) rfl h.1 hc)
end
section
variable {g:G} {f:Fx} {n:Nat} {Q:QV} {E:QE} {loc:List (Option V)} {H H₁ H₂:List (yu × O)}
theorem xZ.tk (t:qp H₂ H H₁) (h:xZ g f n ns body p Q E ⟨loc,H₂++H₁⟩):xZ g f n ns body p Q E ⟨loc,H⟩:=Op.mk λA s hA hs=>h.h A s hA (Rep.perm hs t.perm)
end
structure qN (p:GP) (mg:Str->Option yr) (f:Fx):Prop where
 code:f.env.code= .ref 407
 hd:CodeHd p.base 407 405
 bi:p.base.BuiltinsAt mg 405
section
variable {p:GP} {mg mb:Str->Option yr} (gk:GOk (g4 p) mg mb)
include gk
theorem xL (hk:n<580) (ok:FOk (g4 p) f) (hh:f.hd=none) (hE:qN p mg f) (g:xg (f.cells.lookup ·) ns=true) (J:ns.all (λq=> !(q.2== .cell))=true) (a0:zZ (f.cells.lookup ·) ns []=cl) (u:(cl.all λq=>BA q.1 tab.length)=true)
  (C: ∀N:Nm,N.tab=tab->body.chk (N.lam ns)=true) (hL:qC (f.env.qual++"<lambda>") 405 L) (t:qp ((405,.many L)::H₁) H R) {Q0:List (yu × Obj)->V->List (yu × O)->Prop} {E0:List (yu × Obj)->List (yu × O)->Prop}
  (hw: ∀fa fo L' f',FOk (g4 p) f'->f'.cells=cl->f'.hd=none->body.wp (g4 p) f' (n+6) (λx σ'=>∃H',Sub H' σ'.H/\Q0 L' x H') (λx σ'=>∃H',Sub H' σ'.H/\x.cls= .ref 41/\E0 L' H') ⟨[],(fa,.raw fo)::(405,.many L')::H₁⟩)
  (hQ: ∀t L' x H',qC (f.env.qual++"<lambda>") 405 L'->Q0 L' x H'->Q (.ref t) ⟨loc,(t,.tup [.bool true,x])::H'++R⟩)
  (hX: ∀t L' H',qC (f.env.qual++"<lambda>") 405 L'->E0 L' H'->Q (.ref t) ⟨loc,(t,.tup [.bool false,.none])::H'++R⟩):
  xZ (g4 p) f n ns body pp (λx σ=>qb (g4 p) f n (.fix (.ref 391)) [x] [] Q E σ) E ⟨loc,H⟩:=by
 refine xZ.tk t ?_
 refine xZ.make gk ok hE.code hE.hd (by decide) hE.bi g hL λfa fo L' F hI=>?_
 rw [a0] at hI
 refine qA (hI.func) λfd Z=>?_
 have A:qs (g4 p) (n+3) none (.ref fa) [] [] ((fa,.raw fo)::(405,.many L')::H₁) (λx H'=>Q0 L' x H') (λx H'=>x.cls= .ref 41/\E0 L' H'):=
  qs.lam gk (N:=f.nmOf (g4 p)) rfl hI (.head _) (.tail _ (.head _)) (lk1 hk rfl) J (λq hq=>yL.mp (yY.mp u q hq)) (C _ rfl) λf' I oo a1 X=>hw fa fo L' f' I a1 X
 refine IK gk ok GF.f_law_ask (qs.hd0 hh (uG gk (by exact (lk0 hk rfl)) (.head _) Z A (λx H h=>h.1))) (H₂:=R) ?_ (λx H' h=>?_) λoo oo h=>h.elim
 ·exact .cons .head (.cons .head (by
   clear hw A t
   induction H₁ with
   |nil=>exact .nil
   |cons a r ih=>exact .cons .head ih))
 ·obtain ⟨t',H1,rfl,h⟩:=h
  rcases h with ⟨x,hq,rfl⟩|⟨⟨x,_,he⟩,rfl⟩
  ·exact hQ t' L' x H1 F hq
  ·exact hX t' L' H1 F he
end
structure LK where
 cz:yu
 cw:yu
 cs:yu
 cr:yu
 cn:yu
 cm:yu
 cl:yu
 cd:yu
 cj:yu
 ct:yu
 cp:yu
 cb:yu
 ctop:yu
 ba:yu
 pa:yu
 ca:yu
 ma:yu
 sa:yu
 D:DK
 n:Nat
 lo:Nat
 bads:List Nat
 v1:Option V
 v4:Option V
 v7:Option V
 v8:Option V
 la:yu
 lx:List V
structure LC (f:Fx) (K:LK):Prop where
 z:f.cells.lookup 268=some K.cz
 w:f.cells.lookup 266=some K.cw
 s:f.cells.lookup 270=some K.cs
 r:f.cells.lookup 263=some K.cr
 nw:f.cells.lookup 274=some K.cn
 m:f.cells.lookup 267=some K.cm
 l:f.cells.lookup 272=some K.cl
 d:f.cells.lookup 84=some K.cd
 j:f.cells.lookup 273=some K.cj
 t:f.cells.lookup 257=some K.ct
 p:f.cells.lookup 262=some K.cp
 b:f.cells.lookup 254=some K.cb
 top:f.cells.lookup 253=some K.ctop
structure LS where
 ff:Nat
 tb:yu
 shut:Bool
 x:Int
 ps:List (List UInt8)
 chs:List (yu × List Nat)
 marks:List Int
 L:List (yu × Obj)
 T:List Int
 d:List UInt8
structure LZ where
 z:Option V
 w:Option V
 s:Option V
 r:Option V
 nw:Option V
 m:Option V
 l:Option V
 j:Option V
 t:Option V
noncomputable abbrev LS.css (S:LS):List (List Nat):=S.chs.map (·.2)
noncomputable abbrev LK.GM (K:LK) (S:LS) (Z:LZ) (M:List (yu × O)):List (yu × O):=
 (405,.many S.L)::(K.cz,.cell Z.z)::(K.cw,.cell Z.w)::(K.cs,.cell Z.s)::(K.cr,.cell Z.r)::(K.cn,.cell Z.nw)::(K.cm,.cell Z.m)::(K.cl,.cell Z.l)::(K.cd,.cell (some (.ref K.D.a)))::(K.cj,.cell Z.j)::(K.ct,.cell Z.t)::(K.cp,.cell (some (.ref K.pa)))::(K.cb,.cell (some (.ref K.ba)))::(K.ctop,.cell (some (.int (kTp K.D.kd))))::
 K.D.ha (S.ff:Nat) S.tb S.shut::K.D.ho S.d S.x::K.D.hc::DK.ht S.tb S.T::(K.ba,.list (qd K.bads))::(K.ca,.list (qL S.chs))::(K.ma,.list (S.marks.map V.int))::(K.pa,.list (S.ps.map V.bytes))::(K.la,.list K.lx)::M
section
variable {K:LK} {S:LS} {z w s r n m l j t v:Option V} {M:List (yu × O)}
theorem gmM (h:q∈M):q∈K.GM S Z M:=by
 iterate 23 refine .tail _ ?_
 exact h
theorem guz:HU K.cz (.cell z) (.cell v) (K.GM S ⟨z,w,s,r,n,m,l,j,t⟩ M) (K.GM S ⟨v,w,s,r,n,m,l,j,t⟩ M):=uq1 uq0
theorem guw:HU K.cw (.cell w) (.cell v) (K.GM S ⟨z,w,s,r,n,m,l,j,t⟩ M) (K.GM S ⟨z,v,s,r,n,m,l,j,t⟩ M):=uq2 uq0
theorem gus:HU K.cs (.cell s) (.cell v) (K.GM S ⟨z,w,s,r,n,m,l,j,t⟩ M) (K.GM S ⟨z,w,v,r,n,m,l,j,t⟩ M):=uq2 (uq1 uq0)
theorem gur:HU K.cr (.cell r) (.cell v) (K.GM S ⟨z,w,s,r,n,m,l,j,t⟩ M) (K.GM S ⟨z,w,s,v,n,m,l,j,t⟩ M):=uq4 uq0
theorem gun:HU K.cn (.cell n) (.cell v) (K.GM S ⟨z,w,s,r,n,m,l,j,t⟩ M) (K.GM S ⟨z,w,s,r,v,m,l,j,t⟩ M):=uq4 (uq1 uq0)
theorem gum:HU K.cm (.cell m) (.cell v) (K.GM S ⟨z,w,s,r,n,m,l,j,t⟩ M) (K.GM S ⟨z,w,s,r,n,v,l,j,t⟩ M):=uq4 (uq2 uq0)
theorem gul:HU K.cl (.cell l) (.cell v) (K.GM S ⟨z,w,s,r,n,m,l,j,t⟩ M) (K.GM S ⟨z,w,s,r,n,m,v,j,t⟩ M):=uq4 (uq2 (uq1 uq0))
theorem guj:HU K.cj (.cell j) (.cell v) (K.GM S ⟨z,w,s,r,n,m,l,j,t⟩ M) (K.GM S ⟨z,w,s,r,n,m,l,v,t⟩ M):=uq8 (uq1 uq0)
end
noncomputable abbrev LK.G (K:LK) (S:LS) (Z:LZ):List (yu × O):=K.GM S Z (qO S.chs)
noncomputable abbrev LK.loc (K:LK) (shut:Bool) (y5 y6 y13 y14 y15 y16 y17 y18 y19 y20 y21 y22 y23:Option V):List (Option V):=
 [some (.ref K.sa),K.v1,some (.int K.D.kd),some (.int (K.n:Nat)),K.v4,y5,y6,K.v7,K.v8,some (.ref K.ca),some (.ref K.ma),some (.ref K.D.o),some (.bool shut),y13,y14,y15,y16,y17,y18,y19,y20,y21,y22,y23]
structure KOk (K:LK):Prop where
 B:zS K.n K.bads
 D:DOk K.D K.lo
 lo:K.lo<=100
structure zJ (K:LK) (S:LS) (q:Str):Prop where
 wf:WF K.n K.D.kd K.bads S.css S.marks
 ff:FF K.n S.T S.ff
 pt:xe K.lo K.n S.ps
 lt:qC q 405 S.L
 eT:S.T=qY (xj K.n (kTp K.D.kd) K.bads) S.css S.marks
 ed:S.d=S.ps.flatten
abbrev NxP (K:LK) (q:Str) (Q:QF):Prop:=∀S' Z' y5 y6 y13 y14 y15 y16 y17 y18 y19 y20 y21 y22 y23 H' R',zJ K S' q->List.Perm H' (K.G S' Z'++R')->Q .next ⟨K.loc S'.shut y5 y6 y13 y14 y15 y16 y17 y18 y19 y20 y21 y22 y23,H'⟩
section
variable {K:LK} {S:LS} {q:Str}
theorem zJ.tab (h:zJ K S q) (k:KOk K):zh K.n (kTp K.D.kd) K.bads S.css S.marks S.T:=h.eT ▸ jE k.B h.wf
theorem zJ.len (h:zJ K S q) (k:KOk K):S.T.length=K.n:=(h.tab k).len
theorem zJ.oct (h:zJ K S q) (k:KOk K):S.d.length=K.lo+4*(K.n - 1):=h.ed ▸ h.pt.total (by have:=k.B.n9;exact (lg0 this.1 rfl))
theorem zJ.plc (h:zJ K S q) (k:KOk K): ∀c,2<=c->c<S.T.length->Mine.Internal.plc K.lo c+4<=S.d.length:=λc h2 hc=>by
 rw [h.len k] at hc
 rw [h.oct k]
 unfold Mine.Internal.plc;exact (LB [_,_,_,_,_] [] [.nt VA VB,.ne (.a VC KC) VA,.ne (.a VD KB) VB] (.nl (.a (.a VE (.m 4 VC)) KF) (.a VE (.m 4 VD))) [1,4,4,-4] rfl hc (yn h2) (yn (qq [.nt VA VB] (.nl KB VB) rfl hc)))
end
theorem LC.at {K:LK} (h:LC f K):LC (f.at q) K:=⟨h.z,h.w,h.s,h.r,h.nw,h.m,h.l,h.d,h.j,h.t,h.p,h.b,h.top⟩
theorem qN.at (h:qN p mg f):qN p mg (f.at q):=⟨h.code,h.hd,h.bi⟩
theorem Q3: ∀{n:Nat} {l:List Nat},l.Nodup->(∀x∈l,x<n)->l.length<=n
 |0,l,_,h=>by
  cases l with
  |nil=>exact yM _
  |cons a r=>exact absurd (h a (.head _)) (DJ _)
 |n+1,l,nd,h=>by
  have ih:=Q3 (n:=n) (l:=l.erase n) (nd.erase n) λx hx=>by
   have h1:=h x (List.mem_of_mem_erase hx)
   have h2:x≠n:=λe=>by
    subst e
    exact (nd.mem_erase_iff.mp hx).1 rfl
   exact (Or.elim (Wh h2) (λw1=>w1) λw1=>(qM [.nt VA (.a VB KB),.nt VB VA] (.nt VA VB) [0,1,1] rfl h1 w1))
  rw [List.length_erase] at ih
  split at ih<;>(first|lia|omega)
theorem YF {css:List (List Nat)}:(∀c∈css,c≠[])->css.length<=css.flatten.length:=by
 induction css with
 |nil=>
  exact @λoo=>yM _
 |cons c r ih=>
  exact @λh=>by
   have:=ih λx hx=>h x (.tail _ hx)
   have hc:=WU.mpr (h c (.head _))
   rw [Wa,yS,WE];exact (qR [.nl VA VB,.nt KA VC] (.nl (.a VA KB) (.a VC VB)) rfl this hc)
theorem Xy: ∀{css:List (List Nat)},c∈css->c.length<=css.flatten.length
 |a::r,h=>by
  rw [Wa,yS]
  rcases yy.mp h with rfl|h
  ·exact (qq [] (.nl VA (.a VA VB)) rfl)
  ·have:=Xy h;exact (qR [.nl VA VB] (.nl VA (.a VC VB)) rfl this)
theorem WF.lens {kd:Int} (w:WF n kd bads css marks):css.length<=n/\∀c∈css,c.length<=n:=by
 have h:=Q3 w.nd λx hx=>(w.rng x hx).2.1
 exact qa (yX (YF w.ne) h) (λc hc=>yX (Xy hc) h)
section
variable {g:G} {f:Fx} {n:Nat} {σ:St} {E:QE}
theorem qt.list (hm:(a,.list xs)∈σ.H) (hz:xs.length<=16777216) (h:Q (!xs.isEmpty) σ):qt g f n (.ref a) Q E σ:=Op.mk λv hv A s hA hs=>by
 obtain rfl:=hv
 refine qB (hs.list hm) λvs c hr e=>?_
 refine wpAny_truthy_list (qz e) (by rw [yJ,hr.length];exact (lz2 hz rfl)) (qe _ σ rfl ((hs.toks _).toks _) ?_)
 have:vs.toArray.isEmpty=xs.isEmpty:=by
  cases xs with
  |nil=>obtain rfl:=hr;rfl
  |cons x r=>(refine qB hr λoo oo u oo=>?_;clear hr;subst u);rfl
 rw [this]
 exact h
end
theorem qp.left: ∀(l r:List α),qp l (l++r) r
 |[],_=> .nil
 |_::l,r=> .cons .head (qp.left l r)
theorem qp.leftM:qp (qO chs) (qO chs++r) r:=qp.left _ _
theorem Rep.takeP (h:Rep g f ⟨loc,H⟩ s) (t:H.Perm (H₂++H₁)):Rep g f ⟨loc,H₂⟩ s:=(h.perm t).sub (by
 have:=(Sub.refl H₂).append (Sub.none H₁)
 rwa [Wq] at this)
theorem qb.wkP (t:H.Perm (H₂++H₁)) (h:qb g f n x xs ks Q E ⟨loc,H₂⟩):qb g f n x xs ks Q E ⟨loc,H⟩:=
 Op.mk λu a vs kw ha hv hk A s hA hs=>h.h u a vs kw ha hv hk A s hA (hs.takeP t)
section
variable {p:GP} {mg mb:Str->Option yr} (gk:GOk (g4 p) mg mb) {K:LK} {S:LS} {Z:LZ} {q:Str}
include gk
theorem ve (hk:k<590) (ok:FOk (g4 p) f) (hh:f.hd=none) (hC:LC f K) (kk:KOk K) (hI:zJ K S q) (t:H.Perm (K.G S Z++R))
  (h: ∀tt H' R',qp (DK.ht tt S.T::K.G S {Z with t:=some (.ref tt)}) H' R'->Q .next ⟨K.loc S.shut y5 y6 y13 y14 y15 y16 y17 y18 y19 y20 y21 y22 y23,H'⟩):
  wSs (g4 p) f (k+3) (jf.drop 5) Q EE ⟨K.loc S.shut y5 y6 y13 y14 y15 y16 y17 y18 y19 y20 y21 y22 y23,H⟩:=by
 have J:qp (qO S.chs) (qO S.chs) []:=qp.refl _
 have g: ∀c∈K.G S Z,c∈H:=λc hc=>t.mem_iff.mpr (yA _ hc)
 refine qc (hI.wf.lens) λl1 l2=>?_
 have n9:=kk.B.n9
 refine qe K.ctop _ hC.top (g _ (pm 13 rfl)) ?_
 refine qe K.cb _ hC.b (g _ (pm 12 rfl)) ?_
 refine qb.wkP t ?_
 refine IK gk ok GF.f_law_table (qs.hd0 hh (kJ gk (k:=k+3) (by exact (lk1 hk rfl)) (cnt:=K.n) (top:=kTp K.D.kd) (bads:=K.bads) (b:=K.ba) (ca:=K.ca) (ma:=K.ma) (chs:=S.chs) (marks:=S.marks) (by exact qa (lg0 n9.1 rfl) (ll0 n9.2 rfl)) (λc hc=>(kk.B.rng c hc).2) (by rw [kk.B.len];decide) (by have:=hI.wf.len;rwa [yq] at this) (by rw [yq] at l1;exact (qq [.nl VA VB,.nl VB KK] (.nl VA KO) rfl l1 n9.2)) λc hc=>?_)) ((.cons (wb (rq2 rq0)) (.cons (wb (rq2 rq0)) (.cons (wb (rq2 rq0)) (.under (.under (.under (.under (.under (.under (.under (.under (.under (.under (.under (.under (.under (.under (.under (.under (.under (.under (.under (.under (.refl _))))))))))))))))))))))))) (λy H' h'=>?_) λoo oo h=>h.elim
 ·have hm:c.2∈S.css:=yT hc
  exact qy (hI.wf.ne _ hm) (by have:=l2 _ hm;exact (ls1 n9.2 this rfl)) (λx hx=>(hI.wf.rng x (WT.mpr (qj _ hm hx))).2.1)
 (refine qf h' λtt I F=>?_;clear h';subst I;subst F)
 rw [<- hI.eT]
 refine zX K.ct _ _ hC.t (.right (uq8 (uq2 uq0))) ?_
 refine qe K.cd _ hC.d (yx _ (pm 8 rfl)) ?_
 refine qe K.ct _ hC.t (yx _ (pm 10 rfl)) ?_
 refine qe K.cp _ hC.p (yx _ (pm 11 rfl)) ?_
 refine IK gk ok GF.f_law_same (qs.hd0 hh (JF gk (k:=k+3) (by exact (lk1 hk rfl)) kk.D.kd (D:=K.D) (tb:=S.tb) (tbl:=S.T) (ff:=(S.ff:Nat)) (x0:=S.x) (ro:=S.shut) (d:=S.d) (t2:=tt) (pa:=K.pa) (ca:=K.ca) (parts:=S.ps) (chs:=S.chs) (by rw [hI.len kk];exact (ll0 n9.2 rfl)) hI.ed.symm (by rw [hI.oct kk];have:=kk.lo;exact (qQ [.nl VA KK,.nl VB KO,.ne (.a VC KB) VA] (.nl (.a VB (.m 4 VC)) KR) [1,4,1,4] rfl n9.2 this (yn (lg0 n9.1 rfl)))) (by rw [hI.pt.len];exact (qD [.nl KJ VA] (.nl KC (.a VA KB)) rfl n9.1)) (by rw [yq] at l1;exact (qq [.nl VA VB,.nl VB KK] (.nl VA KO) rfl l1 n9.2)) λc hc=>?_)) ((.cons (.right (rq8 (rq4 (rq2 rq0)))) (.cons (.right (rq8 (rq4 (rq2 rq0)))) (.cons (.right (rq8 (rq4 (rq2 (rq1 rq0))))) (tk0 (.cons (.right (rq8 (rq4 (rq2 (rq1 rq0))))) (tk1 (.under (.under (.left _ _)))))))))) (λy H' h'=>?_) λoo oo h=>h.elim
 ·refine qA (Ds.mp hc) λi hi=>?_
  have e1:S.css[i]? =some c.2:=by rw [yO,hi];rfl
  refine qA (kj hI.wf.len e1) λm em=>?_
  have hm:c.2∈S.css:=yT hc
  exact qy (by have:=l2 _ hm;exact (ls1 n9.2 this rfl)) (λx hx=>(hI.wf.rng x (WT.mpr (qj _ hm hx))).1) (qj m ((hI.tab kk).chain hI.wf e1 em) (hI.wf.mks m (yC em)))
 (refine qc h' λC u=>?_;clear h';subst C;subst u)
 refine H9 (Ym ?_)
 exact h tt _ _ (by (repeat first|exact qp.nil|exact qp.reflM|exact qp.leftM|apply qp.underM|(apply qp.cons;focus ((repeat first|exact Rem.head|apply Rem.tail|apply Rem.right);done))))
end
theorem Uj (chs:List (yu × List Nat)):qp (qO chs) (qO chs) []:=qp.refl _
section
variable {p:GP} {mg mb:Str->Option yr} (gk:GOk (g4 p) mg mb) {K:LK} {S:LS} {q:Str}
include gk
theorem yc (hk:k<500) (ok:FOk (g4 p) f) (hh:f.hd=none) (hC:LC f K) (kk:KOk K) (hI:zJ K S q)
  (h:NxP K q Q):
  wSs (g4 p) f (k+3) UY Q EE ⟨K.loc S.shut y5 y6 y13 y14 y15 y16 y17 y18 y19 y20 y21 y22 y23,(ra,.list (qd (rm K.n S.T)))::DK.ht tt S.T::K.G S ⟨z,some (.int w),s,some (.ref ra),nw,m,l,j,some (.ref tt)⟩⟩:=by
 have g:=Uj S.chs
 refine UnP.not (H9 ?_)
 refine qe K.cd _ hC.d (pm 10 rfl) ?_
 refine I7 qg gk ok (wE uq0) rfl rfl ?_
 exact h {S with shut:= !S.shut} ⟨z,some (.int w),s,some (.ref ra),nw,m,l,j,some (.ref tt)⟩ _ _ _ _ _ _ _ _ _ _ _ _ _ _ _ ⟨hI.wf,hI.ff,hI.pt,hI.lt,hI.eT,hI.ed⟩ (IG ((.under (.under (.refl _)))))
end
section
variable {p:GP} {mg mb:Str->Option yr} (gk:GOk (g4 p) mg mb) {K:LK} {S:LS}
include gk
theorem wd (hk:n<500) (ok:FOk (g4 p) f) (hh:f.hd=none) (hE:qN p mg f) (hC:LC f K) (kk:KOk K) (hI:zJ K S (f.env.qual++"<lambda>")) {many:Int} (hn: -(-many / 4)=(nd:Nat)) (X:0<=many/\many<1000)
  (t:qp [(405,.many S.L),(K.cd,.cell (some (.ref K.D.a))),(K.cm,.cell (some (.int many))),(K.cz,.cell (some (.bool er))),K.D.ha (S.ff:Nat) S.tb S.shut,K.D.ho S.d S.x,K.D.hc,DK.ht S.tb S.T] H R)
  (h1:S.shut=false->nd<=(rm K.n S.T).length->∀t L' i a x',qC (f.env.qual++"<lambda>") 405 L'->S.ff<=i->i<K.n->(frs S.T S.ff (i - S.ff))=(rm K.n S.T).take nd->(frs S.T S.ff (i - S.ff)).length=nd->Q (.ref t) ⟨loc,(t,.tup [.bool true,.ref a])::[K.D.ha (i:Nat) S.tb false,K.D.ho (if er then zq K.lo ((rm K.n S.T).take nd) S.d nd else S.d) x',K.D.hc,DK.ht S.tb (qJ (kTp K.D.kd) ((rm K.n S.T).take nd) S.T nd),(a,.list (qd ((rm K.n S.T).take nd))),(405,.many L'),(K.cd,.cell (some (.ref K.D.a))),(K.cm,.cell (some (.int many))),(K.cz,.cell (some (.bool er)))]++R⟩)
  (h2:(S.shut=true\/(rm K.n S.T).length<nd)->∀t L' x',qC (f.env.qual++"<lambda>") 405 L'->Q (.ref t) ⟨loc,(t,.tup [.bool false,.none])::[K.D.ha (S.ff:Nat) S.tb S.shut,K.D.ho S.d x',K.D.hc,DK.ht S.tb S.T,(405,.many L'),(K.cd,.cell (some (.ref K.D.a))),(K.cm,.cell (some (.int many))),(K.cz,.cell (some (.bool er)))]++R⟩):
  xZ (g4 p) f n [(84,.free),(267,.free),(268,.free)] (Ik (Ib 84 348036040) 213 [(Ib 267 348056060),(Ib 268 348062068)] [] 348036055 348036069) 348028069 (λx σ=>qb (g4 p) f n (.fix (.ref 391)) [x] [] Q EE σ) EE ⟨loc,H⟩:=by
 have n9:=kk.B.n9
 have g:=hI.len kk
 have ae:=hI.plc kk
 have af:S.d.length<=10000:=by rw [hI.oct kk];have:=kk.lo;exact (qQ [.nl VA KK,.nl VB KO,.ne (.a VC KB) VA] (.nl (.a VB (.m 4 VC)) KR) [1,4,1,4] rfl n9.2 this (yn (lg0 n9.1 rfl)))
 have F:=jD (n:=K.n) (T:=S.T) (lg0 n9.1 rfl) hI.ff
 have a2:=hI.ff.1
 have I:=(hI.tab kk).lastNo kk.B
 refine xL gk (by exact (lk0 hk rfl)) ok hh hE (cl:=[(268,K.cz),(267,K.cm),(84,K.cd)]) (by simp [xg,hC.d,hC.m,hC.z]) rfl (by
  show [(268,(f.cells.lookup 268).getD 0),(267,(f.cells.lookup 267).getD 0),(84,(f.cells.lookup 84).getD 0)]=_
  rw [hC.z,hC.m,hC.d];rfl) rfl (λN hN=>by cases N;cases hN;rfl) hI.lt t
  (Q0:=λL' x H'=>S.shut=false/\nd<=(rm K.n S.T).length/\∃i a x',x= .ref a/\S.ff<=i/\i<K.n/\(frs S.T S.ff (i - S.ff)).length=nd/\H'=[K.D.ha (i:Nat) S.tb false,K.D.ho (if er then zq K.lo (frs S.T S.ff (i - S.ff)) S.d nd else S.d) x',K.D.hc,DK.ht S.tb (qJ (kTp K.D.kd) (frs S.T S.ff (i - S.ff)) S.T nd),(a,.list (qd (frs S.T S.ff (i - S.ff)))),(405,.many L'),(K.cd,.cell (some (.ref K.D.a))),(K.cm,.cell (some (.int many))),(K.cz,.cell (some (.bool er)))])
  (E0:=λL' H'=>(S.shut=true\/(rm K.n S.T).length<nd)/\∃x',H'=[K.D.ha (S.ff:Nat) S.tb S.shut,K.D.ho S.d x',K.D.hc,DK.ht S.tb S.T,(405,.many L'),(K.cd,.cell (some (.ref K.D.a))),(K.cm,.cell (some (.int many))),(K.cz,.cell (some (.bool er)))])
  (λfa fo L' f' J a0 Z=>?_) (λt L' x H' a1 hq=>?_) (λt L' H' a1 he=>?_)
 ·refine qe K.cd _ (by rw [a0];rfl) (pm 2 rfl) ?_
  refine IZ qg gk J (C:=380) (pm 5 rfl) (fa:=284) rfl rfl ?_
  refine qe K.cm _ (by rw [a0];rfl) (pm 3 rfl) ?_
  refine qe K.cz _ (by rw [a0];rfl) (pm 4 rfl) ?_
  cases hs:S.shut with
  |true=>
   refine IK gk J GF.f_PyFat_allocate_bytes (ka (H₂:=[K.D.ho S.d S.x,K.D.hc,DK.ht S.tb S.T]) (qs.hd0 Z (XY gk (by exact (lk1 hk rfl)) (D:=K.D) (tb:=S.tb) (er:=er) (many:=many) (ff:=(S.ff:Nat)) (IN (i:=7) (j:=10) (k:=212) GF.b_PyFat_allocate_bytes rfl))) (.refl _)) ((.under (.under (.under (.under (.under (.refl _))))))) (λoo oo zf=>zf.elim λoo zf=>zf.elim λoo h=>h.elim) λe H' h'=>?_
   (refine zk h' λoo ac h1 ab=>?_;clear h';subst ac;subst ab)
   exact X0 _ (Iy (.refl _) (.drop (.refl _))) h1 (.inl rfl) (qx S.x rfl)
  |false=>
   by_cases u:nd<=(rm K.n S.T).length
   ·refine IK gk J GF.f_PyFat_allocate_bytes (qs.hd0 Z (Qu gk (by exact (lk1 hk rfl)) kk.D (tb:=S.tb) (tbl:=S.T) (d:=S.d) (x:=S.x) (er:=er) (nd:=nd) (ff:=S.ff) (IN (i:=7) (j:=10) (k:=212) GF.b_PyFat_allocate_bytes rfl) hn af (ls2 n9.2 g rfl) (qM [.nl KJ VA,.ne VB VA] (.nl KD VB) [1,1,-1] rfl n9.1 g) (by rw [g];exact a2) I (by rw [g,F];exact u) ae)) ((tk5 (tk5 (tk5 (tk5 .nil))))) (λy H' h'=>?_) λoo oo h=>h.elim
    (refine vL h' λi i1 i2 oo i4 a8=>?_;refine qB a8 λa x' aa a9=>?_;clear h';subst aa;subst a9)
    exact X0 _ (Iy (.refl _) (.drop (.refl _))) rfl u (ji i a x' rfl i1 (by rw [<- g];exact i2) i4 rfl)
   ·refine IK gk J GF.f_PyFat_allocate_bytes (qs.hd0 Z (jy gk (by exact (lk1 hk rfl)) kk.D (tb:=S.tb) (tbl:=S.T) (d:=S.d) (x:=S.x) (er:=er) (nd:=nd) (ff:=S.ff) (IN (i:=7) (j:=10) (k:=212) GF.b_PyFat_allocate_bytes rfl) hn X (ls2 n9.2 g rfl) (qM [.nl KJ VA,.ne VB VA] (.nl KD VB) [1,1,-1] rfl n9.1 g) (by rw [g];exact a2) I (by rw [g,F];exact (WC u)))) ((tk5 (tk5 (tk5 (tk5 .nil))))) (λoo oo h=>h.elim) λe H' h'=>?_
    (refine qc h' λh1 a7=>?_;clear h';subst a7)
    exact X0 _ (Iy (.refl _) (.drop (.refl _))) h1 (.inr (WC u)) (qx S.x rfl)
 ·(refine qZ hq λq1 q2 a4=>?_;refine ja a4 λi a x' a6 i1 i2 i4 a5=>?_;clear hq;subst a6;subst a5)
  have e:=wx (by exact (lg0 n9.1 rfl)) hI.ff i1 i2 i4
  have:=h1 q1 q2 t L' i a x' a1 i1 i2 e i4
  rw [e]
  exact this
 ·(refine qc he λq1 z0=>?_;refine qA z0 λx' a3=>?_;clear he;subst a3)
  exact h2 q1 t L' x' a1
end
theorem kZ {ps:List (List UInt8)}:(ps.map V.bytes).set c (.bytes y)=(ps.set c y).map V.bytes:=(List.map_set ..).symm
theorem ZV:((a,O.list (qd fl))::qO chs).Perm (qO (chs++[(a,fl)])):=by
 have e:qO (chs++[(a,fl)])=qO chs++[(a,O.list (qd fl))]:=yE (f:=λq:yu × List Nat=>(q.1,O.list (qd q.2))) (l₁:=chs) (l₂:=[(a,fl)])
 rw [e]
 exact WA (l₁:=[(a,O.list (qd fl))])
theorem Yr:qL chs++[.ref a]=qL (chs++[(a,fl)]):=(yE (f:=λq:yu × List Nat=>V.ref q.1) (l₁:=chs) (l₂:=[(a,fl)])).symm
theorem Qx:ms.map V.int++[.int m]=(ms++[m]).map V.int:=(yE (f:=V.int) (l₁:=ms) (l₂:=[m])).symm
theorem Zo {K:LK} (h:M.Perm M'):(K.GM S Z M).Perm (K.GM S Z M'):=by
 iterate 23 refine List.Perm.cons _ ?_
 exact h
section
variable {p:GP} {mg mb:Str->Option yr} (gk:GOk (g4 p) mg mb) {K:LK} {S:LS} {q:Str}
include gk
theorem Q6 (ok:FOk (g4 p) f) (hh:f.hd=none) (hC:LC f K) (u: ∀c∈fl,c<S.ps.length) (hz:S.ps.length<=100) (t:qp ((nb,.list (qd fl))::K.GM S Z M) H R)
  (h: ∀y5,Q .next ⟨K.loc sh y5 y6 y13 y14 y15 y16 y17 y18 y19 y20 y21 y22 y23,(nb,.list (qd fl))::K.GM {S with ps:=zP S.ps fl} Z M⟩):
  zC (g4 p) f (k+3) (.one 5 q1) (.ref nb) [Mine.Internal.S.ass (Ib 262 q2) (H8 5 q3) (Ig .Mult (I1 [0] q4) (Ia 4 q5) q6) q7 q8] [] Q EE ⟨K.loc sh y5 y6 y13 y14 y15 y16 y17 y18 y19 y20 y21 y22 y23,H⟩:=by
 refine zC.wk t ?_
 refine zC.list gk ok hh (xs:=qd fl) (λj σ=>∃y5,σ=⟨K.loc sh y5 y6 y13 y14 y15 y16 y17 y18 y19 y20 y21 y22 y23,(nb,.list (qd fl))::K.GM {S with ps:=zP S.ps (fl.take j)} Z M⟩) (λj σ hi=>?_) (qx y5 rfl) (λr j x σ C hj hi=>?_) (λσ hi=>?_)
 ·(refine qA hi λoo z1=>?_;clear hi;subst z1)
  exact .head _
 ·(refine qA hi λy5 z2=>?_;clear hi;subst z2)
  (refine qf (jg hj) λc g z3=>?_;subst z3)
  have:=u c (yC g)
  refine qo.repBE (c:=z4) (by simp) (by simp) (by decide) (by decide) rfl ?_
  refine qe K.cp _ hC.p (pm 12 rfl) ?_
  refine IJ (wE (uq4 (uq2 uq0))) (yt _) (lz0 hz this rfl) (by rw [yq,Jt];exact (Bg.mpr this)) ?_
  rw [yW,kZ]
  dsimp only [nxt,wSs,turn]
  exact Wk.of (qx _ (by rw [zy g,JP];rfl))
 ·(refine qA hi λy5 z4=>?_;clear hi;subst z4)
  rw [yq,Bs]
  exact h y5
end
theorem jq:(qd fl).take ((m:Nat):Int).toNat=qd (fl.take m):=by rw [yW,<- HZ]
theorem qt.wk (t:qp H₂ H H₁) (h:qt g f n x Q E ⟨loc,H₂⟩):qt g f n x Q E ⟨loc,H⟩:=Op.mk λv hv A s hA hs=>h.h v hv A s hA (hs.take t)
section
variable {p:GP} {mg mb:Str->Option yr} (gk:GOk (g4 p) mg mb) {K:LK} {S:LS}
include gk
theorem X6 (hk:k<480) (ok:FOk (g4 p) f) (hh:f.hd=none) (hC:LC f K) (kk:KOk K) (hI:zJ K S (f.env.qual++"<lambda>")) {Z:LZ} (a0:RM=rm K.n S.T) (a8:nd<=RM.length) (hs:S.shut=false) (hL:qC (f.env.qual++"<lambda>") 405 L') (i1:S.ff<=i) (i2:i<K.n) (a5:frs S.T S.ff (i - S.ff)=RM.take nd)
  (hz:Z.z=some (.bool er)) (hr:Z.r=some (.ref ra)) (a6:T'=qJ (kTp K.D.kd) (RM.take nd) S.T nd) (J:d'=if er then zq K.lo (RM.take nd) S.d nd else S.d)
  (t:qp ((a2,.tup [.bool true,.ref a])::(a,.list (qd (RM.take nd)))::(ra,.list (qd RM))::(405,.many L')::(K.cz,.cell Z.z)::(K.cw,.cell Z.w)::(K.cs,.cell Z.s)::(K.cr,.cell Z.r)::(K.cn,.cell Z.nw)::(K.cm,.cell Z.m)::(K.cl,.cell Z.l)::(K.cd,.cell (some (.ref K.D.a)))::(K.cj,.cell Z.j)::(K.ct,.cell Z.t)::(K.cp,.cell (some (.ref K.pa)))::(K.cb,.cell (some (.ref K.ba)))::(K.ctop,.cell (some (.int (kTp K.D.kd))))::
   K.D.ha (i:Nat) S.tb false::K.D.ho d' x'::K.D.hc::DK.ht S.tb T'::(K.ba,.list (qd K.bads))::(K.ca,.list (qL S.chs))::(K.ma,.list (S.marks.map V.int))::(K.pa,.list (S.ps.map V.bytes))::(K.la,.list K.lx)::qO S.chs) H R)
  (h:NxP K (f.env.qual++"<lambda>") Q):
  wSs (g4 p) f (k+3) (Zt.drop 5) Q EE ⟨K.loc false y5 y6 y13 (some (.int (nd:Nat))) (some (.bool true)) (some (.ref a2)) y17 y18 y19 y20 y21 y22 y23,H⟩:=by
 have n9:=kk.B.n9
 have u:(RM.take nd).length=nd:=by rw [Wx];exact (zH [.ne VA VB] (.ne VA VB) [1,-1] [1,1] rfl (Wz a8))
 have g: ∀c∈RM.take nd,2<=c/\S.T[c]? =some 0:=λc hc=>ZQ (a0 ▸ Dy hc)
 have a9:(RM.take nd).Nodup:=(List.take_sublist _ _).nodup (a0 ▸ Ql)
 have a4:=λc hc=>(hI.tab kk).zero kk.B hI.wf (g c hc).1 (g c hc).2
 have X:RM.length<=100:=by rw [a0];exact yX xO (qq [.nl VA KK,.ne (.a VB KC) VA] (.nl VB KO) rfl n9.2 (yn (lg0 n9.1 rfl)))
 refine qt.wk t (H9 (ke ?_))
 refine qe K.cr _ hC.r (by rw [hr];exact pm 7 rfl) ?_
 refine qv.takeL (pm 2 rfl) (yt _) (by rw [yq];exact (ll0 X rfl)) λb1=>?_
 rw [jq]
 intro b2
 refine IF (k:=1) (pm 2 rfl) (.head _) (.inl (qa rfl (.inr (.inl (qx _ rfl))))) (Sm.nats (fl:=RM.take nd) (pm 3 rfl) (pm 1 rfl)) (by show k+3+1+1<9900;exact (lk3 hk rfl)) ?_
 refine H9 (qX ?_)
 refine H9 (qa (λe=>yQ e) (λoo=>?_))
 refine qm.gt (H9 ?_)
 by_cases h0:nd=0
 ·refine ZU (Bw.mpr (qD [.ne VA KA] (.zl (.c VA) UA) rfl h0)) (qX ?_)
  subst h0
  have e1:d'=S.d:=by rw [J];cases er<;>rfl
  have e2:T'=S.T:=a6
  refine h {S with ff:=i,x:=x',L:=L',T:=T',d:=d',shut:=false} Z _ _ _ _ _ _ _ _ _ _ _ _ _ _ _ ⟨hI.wf,?_,hI.pt,hL,e2.trans hI.eT,e1.trans hI.ed⟩ (IG ((.under (.under (.under (.under (.under (.refl _))))))))
  show FF K.n T' i
  rw [e2]
  exact FF.alloc kk.B hI.wf (hI.tab kk) hI.wf (hI.tab kk) hI.ff i1 i2 λx hx=>by
   refine Or.elim hx (λhx=>?_) λhx=>?_
   ·exact hx
   ·rw [a5] at hx;exact (yI hx).elim
 ·refine XT (WX.mpr (FW h0)) (vo ?_)
  have I:=hI.wf.lens
  rw [yq] at I
  have a3:=hI.wf.len
  rw [yq] at a3
  refine II (pm 24 rfl) PySem.F.slot_list_append PySem.F.type_list_append ?_
  refine qe K.cr _ hC.r (by rw [hr];exact pm 9 rfl) ?_
  refine qv.takeL (pm 4 rfl) (yt _) (by rw [yq];exact (ll0 X rfl)) λna=>?_
  rw [jq]
  refine I4 (wE (uq8 (uq1 uq0))) (by rw [yq];exact (ls1 n9.2 I.1 rfl)) ?_
  rw [Yr (fl:=RM.take nd)]
  refine II (pm 26 rfl) PySem.F.slot_list_append PySem.F.type_list_append ?_
  refine qe K.ctop _ hC.top (pm 19 rfl) ?_
  refine I4 (wE (uq8 (uq2 uq0))) (by rw [yq];exact (qQ [.nl VA KK,.nl VB VA,.ne VB VC] (.nl VC KT) [1,1,1,-1] rfl n9.2 I.1 a3)) ?_
  rw [Qx]
  have C:WF K.n K.D.kd K.bads ((S.chs++[(na,RM.take nd)]).map (·.2)) (S.marks++[kTp K.D.kd]):=by
   rw [yE]
   exact hI.wf.new kk.B (hI.tab kk) (λe=>h0 (by have e':RM.take nd=[]:=e;rw [e'] at u;exact u.symm)) a9 g
  have a1:T'=qY (xj K.n (kTp K.D.kd) K.bads) ((S.chs++[(na,RM.take nd)]).map (·.2)) (S.marks++[kTp K.D.kd]):=by
   rw [yE]
   show _=qY _ (S.css++[RM.take nd]) _
   rw [wZ hI.wf.len,<- hI.eT,u,a6]
  have a7:FF K.n T' i:=FF.alloc kk.B hI.wf (hI.tab kk) C (a1 ▸ jE kk.B C) hI.ff i1 i2 λx hx=>by
   rw [yE,Wy]
   refine Or.elim hx (λhx=>?_) λhx=>?_
   ·exact yA _ hx
   ·rw [a5] at hx;exact yx _ (by simpa using hx)
  refine qe K.cz _ hC.z (by rw [hz];exact pm 7 rfl) (H9 ?_)
  cases er with
  |false=>
   refine qX ?_
   refine h {S with ff:=i,x:=x',L:=L',T:=T',d:=d',shut:=false,chs:=S.chs++[(na,RM.take nd)],marks:=S.marks++[kTp K.D.kd]} Z _ _ _ _ _ _ _ _ _ _ _ _ _ _ _ ⟨C,a7,hI.pt,hL,a1,J.trans hI.ed⟩ ((IG (a:=K.GM {S with ff:=i,x:=x',L:=L',T:=T',d:=d',shut:=false,chs:=S.chs++[(na,RM.take nd)],marks:=S.marks++[kTp K.D.kd]} Z ((na,.list (qd (RM.take nd)))::qO S.chs)) ((tk6 (tk6 (tk6 (tk6 (tk6 (tk6 (tk6 (tk6 (tk6 (tk6 (tk6 (tk6 (tk6 (tk6 (tk6 (tk6 (tk6 (tk6 (tk6 (tk6 (tk6 (tk6 (tk6 (tk0 (.under (.under (.under (.under (.under (.refl _)))))))))))))))))))))))))))))))).trans ((Zo ZV).append_right _))
  |true=>
   refine ke ?_
   refine qe K.cr _ hC.r (by rw [hr];exact pm 10 rfl) ?_
   refine qv.takeL (pm 5 rfl) (yt _) (by rw [yq];exact (ll0 X rfl)) λnb=>?_
   rw [jq]
   refine Q6 gk ok hh hC (S:={S with ff:=i,x:=x',L:=L',T:=T',d:=d',shut:=false,chs:=S.chs++[(na,RM.take nd)],marks:=S.marks++[kTp K.D.kd]}) (Z:=Z) (M:=(na,.list (qd (RM.take nd)))::qO S.chs) (λc hc=>by show c<S.ps.length;rw [hI.pt.len];have:=(a4 c hc).1;exact (qq [.nt VA VB] (.nt VA (.a VB KB)) rfl this)) (by show S.ps.length<=100;rw [hI.pt.len];exact (ll1 n9.2 rfl)) ((tk0 (tk6 (tk6 (tk6 (tk6 (tk6 (tk6 (tk6 (tk6 (tk6 (tk6 (tk6 (tk6 (tk6 (tk6 (tk6 (tk6 (tk6 (tk6 (tk6 (tk6 (tk6 (tk6 (tk6 (tk0 (.under (.under (.under (.under (.under (.refl _)))))))))))))))))))))))))))))))) λaa=>?_
   refine h {S with ff:=i,x:=x',L:=L',T:=T',d:=d',shut:=false,chs:=S.chs++[(na,RM.take nd)],marks:=S.marks++[kTp K.D.kd],ps:=zP S.ps (RM.take nd)} Z _ _ _ _ _ _ _ _ _ _ _ _ _ _ _ ⟨C,a7,hI.pt.zP λc hc=>(g c hc).1,hL,a1,?_⟩ ((IG (a:=K.GM {S with ff:=i,x:=x',L:=L',T:=T',d:=d',shut:=false,chs:=S.chs++[(na,RM.take nd)],marks:=S.marks++[kTp K.D.kd],ps:=zP S.ps (RM.take nd)} Z ((na,.list (qd (RM.take nd)))::qO S.chs)) ((.under (.refl _)))).trans ((Zo ZV).append_right _))
   show d'=(zP S.ps (RM.take nd)).flatten
   rw [J,if_pos rfl,hI.ed,hI.pt.zer (lg0 n9.1 rfl) (λc hc=>(qa ((g c hc).1) (by have:=(a4 c hc).1;exact (yV this)))) (by rw [u];exact yM _),WP (by rw [u];exact yM _)]
theorem Q5 (hk:k<480) (ok:FOk (g4 p) f) (hh:f.hd=none) (hC:LC f K) (kk:KOk K) (hI:zJ K S (f.env.qual++"<lambda>")) (hL:qC (f.env.qual++"<lambda>") 405 L') (hs:S.shut=sh)
  (t:qp ((a2,.tup [.bool false,.none])::K.G {S with x:=x',L:=L',shut:=sh} Z) H R)
  (h:NxP K (f.env.qual++"<lambda>") Q):
  wSs (g4 p) f (k+3) (Zt.drop 5) Q EE ⟨K.loc sh y5 y6 y13 (some nd) (some (.bool false)) (some (.ref a2)) y17 y18 y19 y20 y21 y22 y23,H⟩:=by
 refine qt.wk t (H9 (qX ?_))
 intro b2
 refine IF (k:=0) (.tail _ (.head _)) (.head _) (qa rfl (.inr (.inl (qx _ rfl)))) (qa rfl (.inl rfl)) (by show k+3+0+1<9900;exact (lk3 hk rfl)) ?_
 refine H9 (qX ?_)
 refine H9 (qa (λoo=>qX ?_) (λe=>yQ e))
 exact h {S with x:=x',L:=L',shut:=sh} Z _ _ _ _ _ _ _ _ _ _ _ _ _ _ _ ⟨hI.wf,hI.ff,hI.pt,hL,hI.eT,hI.ed⟩ (IG ((.under (.under (.refl _)))))
theorem yj (hk:k<480) (ok:FOk (g4 p) f) (hh:f.hd=none) (hC:LC f K) (hE:qN p mg f) (kk:KOk K) (hI:zJ K S (f.env.qual++"<lambda>"))
  (h:NxP K (f.env.qual++"<lambda>") Q):
  wSs (g4 p) f (k+3) Zt Q EE ⟨K.loc S.shut y5 y6 y13 y14 y15 y16 y17 y18 y19 y20 y21 y22 y23,(ra,.list (qd (rm K.n S.T)))::DK.ht tt S.T::K.G S ⟨z,some (.int w),s,some (.ref ra),nw,m,l,j,some (.ref tt)⟩⟩:=by
 have n9:=kk.B.n9
 have F:(rm K.n S.T).length<=100:=yX xO (qq [.nl VA KK,.ne (.a VB KC) VA] (.nl VB KO) rfl n9.2 (yn (lg0 n9.1 rfl)))
 refine qe K.cw _ hC.w (pm 4 rfl) ?_
 refine Iv (by decide) ?_
 refine zX K.cm _ _ hC.m (uq2 gum) ?_
 refine qe K.cw _ hC.w (pm 4 rfl) ?_
 refine IQ (by decide) (.inl (by decide)) ?_
 refine Iv (by decide) ?_
 refine Ix ?_
 generalize decide (w / 25 % 2=1)=er
 refine zX K.cz _ _ hC.z (uq2 guz) ?_
 refine qe K.cm _ hC.m (pm 8 rfl) ?_
 refine IX ?_
 refine IQ (by decide) (.inl (by decide)) ?_
 refine IX ?_
 have g:0<=w % 25/\w % 25<25:=by exact qa (za [.zl UA ZA] (.zl UA ZA) rfl (Wj _ (by decide))) (za [.zt ZA UN] (.zt ZA UN) rfl (yZ _ (by decide)))
 generalize w % 25=many at g |-
 obtain ⟨nd,C⟩: ∃nd:Nat,-(-many / 4)=(nd:Int):=(qx ((-(-many / 4)).toNat) (by exact (Yi [.ze (.c VA) (.n ZA)] (.ze (.n ZA) (.c VA)) [1,1] [1,-1] rfl (yz (Xm [.ze (.c VA) (.n ZA)] (.zl UA (.n ZA)) rfl (yz (LB [] [_,_,_] [.zl UA ZA,.ze (.a (.m 4 ZB) ZC) (.n ZA),.zl UA ZC] (.zl UA (.n ZB)) [4,1,1,1] rfl g.1 (WG _ 4) (Wj _ (by decide)))))))))
 rw [C]
 refine UnP.not (H9 (H9 ?_))
 cases hs:S.shut with
 |true=>
  refine qa (λoo=>?_) (λe=>yQ e)
  refine wd gk (by exact (lk1 hk rfl)) ok hh hE hC kk hI (many:=many) (er:=er) (nd:=nd) C (by exact qa g.1 (za [.zt ZA UN] (.zt ZA UP) rfl g.2)) ((tk2 (tk9 (tk7 (tk2 (.cons (rq8 (rq4 rq0)) (.cons (rq8 (rq4 rq0)) (.cons (rq8 (rq4 rq0)) (.cons (rq8 (rq4 rq0)) .nil))))))))) (λe oo=>by rw [hs] at e;exact yQ e) λoo t L' x' u=>?_
  exact Q5 gk hk ok hh hC kk hI (Z:=⟨some (.bool er),some (.int w),s,some (.ref ra),nw,some (.int many),l,j,some (.ref tt)⟩) u hs (x':=x') (by rw [hs];exact (tk0 (tk4 (tk6 (tk8 (tk8 (tk8 (tk8 (tk5 (tk7 (tk4 (tk6 (tk6 (tk6 (tk6 (tk6 (tk0 (tk0 (tk0 (tk0 (tk2 (tk2 (tk2 (tk2 (tk2 (.under (.under (.refl _)))))))))))))))))))))))))))) h
 |false=>
  refine qa (λe=>yQ e) (λoo=>?_)
  refine qe K.cr _ hC.r (pm 6 rfl) ?_
  refine IH (pm 0 rfl) (by rw [yq];exact (ln0 F rfl)) ?_
  refine IE ?_
  rw [yq]
  by_cases hr:nd<=(rm K.n S.T).length
  ·rw [decide_eq_true (show ((nd:Nat):Int)<=((rm K.n S.T).length:Nat) by exact (qq [.nl VA VB] (.zl (.c VA) (.c VB)) rfl hr))]
   refine wd gk (by exact (lk1 hk rfl)) ok hh hE hC kk hI (many:=many) (er:=er) (nd:=nd) C (by exact qa g.1 (za [.zt ZA UN] (.zt ZA UP) rfl g.2)) ((tk2 (tk9 (tk7 (tk2 (.cons (rq8 (rq4 rq0)) (.cons (rq8 (rq4 rq0)) (.cons (rq8 (rq4 rq0)) (.cons (rq8 (rq4 rq0)) .nil))))))))) (λoo oo t L' i a x' u i1 i2 hf J=>?_) λe=>by refine Or.elim e (λe=>?_) λe=>?_;rw [hs] at e;exact yQ e;exfalso;exact (qM [.nl VA VB,.nt VB VA] .ff [0,1,1] rfl hr e)
   generalize I:rm K.n S.T=RM at hr hf F |-
   refine X6 gk hk ok hh hC kk hI (Z:=⟨some (.bool er),some (.int w),s,some (.ref ra),nw,some (.int many),l,j,some (.ref tt)⟩) I.symm hr hs u i1 i2 hf rfl rfl (x':=x') rfl rfl ((tk0 (tk4 (tk8 (tk4 (tk6 (tk7 (tk7 (tk7 (tk7 (tk5 (tk6 (tk4 (tk5 (tk5 (tk5 (tk5 (tk5 (tk0 (tk0 (tk0 (tk0 (tk1 (tk1 (tk1 (tk1 (tk1 (.under (.refl _))))))))))))))))))))))))))))) h
  ·rw [decide_eq_false (show ¬ ((nd:Nat):Int)<=((rm K.n S.T).length:Nat) by exact (WM.mpr (Bg.mpr (WC hr))))]
   refine wd gk (by exact (lk1 hk rfl)) ok hh hE hC kk hI (many:=many) (er:=er) (nd:=nd) C (by exact qa g.1 (za [.zt ZA UN] (.zt ZA UP) rfl g.2)) ((tk2 (tk9 (tk7 (tk2 (.cons (rq8 (rq4 rq0)) (.cons (rq8 (rq4 rq0)) (.cons (rq8 (rq4 rq0)) (.cons (rq8 (rq4 rq0)) .nil))))))))) (λoo h=>absurd h hr) λoo t L' x' u=>?_
   exact Q5 gk hk ok hh hC kk hI (Z:=⟨some (.bool er),some (.int w),s,some (.ref ra),nw,some (.int many),l,j,some (.ref tt)⟩) u hs (x':=x') (by rw [hs];exact (tk0 (tk4 (tk6 (tk8 (tk8 (tk8 (tk8 (tk5 (tk7 (tk4 (tk6 (tk6 (tk6 (tk6 (tk6 (tk0 (tk0 (tk0 (tk0 (tk2 (tk2 (tk2 (tk2 (tk2 (.under (.under (.refl _)))))))))))))))))))))))))))) h
end
theorem kq:(qO (A++c::B)).Perm (qO (A++B)++[(c.1,O.list (qd c.2))]):=by
 have e1:qO (A++c::B)=qO A++(c.1,O.list (qd c.2))::qO B:=yE ..
 have e2:qO (A++B)=qO A++qO B:=yE ..
 rw [e1,e2]
 refine Bd.trans ?_
 exact (List.perm_append_singleton _ _).symm
theorem jo (h:c∈chs):(c.1,O.list (qd c.2))∈qO chs:=yT (f:=λq:yu × List Nat=>(q.1,O.list (qd q.2))) h
theorem u8 {K:LK}:K.GM S Z (M++N)=K.GM S Z M++N:=rfl
theorem Jz {K:LK} {M M' H R:List (yu × O)} (h:M.Perm (M'++[c])) (t:H.Perm (K.GM S Z M++R)):H.Perm (K.GM S Z M'++c::R):=by
 refine t.trans (((Zo h).append_right R).trans (.of_eq ?_))
 rw [u8,yG];rfl
theorem jM {α:Type} {l:List α} (h:k<l.length): ∃A c B,l=A++c::B/\A.length=k:=by
 refine Yj (l.take k) (l[k]) (l.drop (k+1)) ?_ (by rw [Wx];exact (zH [.ne VA VB] (.ne VA VB) [1,-1] [1,1] rfl (Wz (yV h))))
 rw [D6,Fj]
section
variable {p:GP} {mg mb:Str->Option yr} (gk:GOk (g4 p) mg mb) {K:LK} {S:LS}
include gk
theorem kP (hk:n<500) (ok:FOk (g4 p) f) (hh:f.hd=none) (hE:qN p mg f) (hC:LC f K) (hL:qC (f.env.qual++"<lambda>") 405 L) {st:V} {E1:List (yu × O)->Prop}
  (A:qs (g4 p) (n+6) none (.ref 253) [.ref K.D.a,st] [] H₂ Q1 (λx H'=>x.cls= .ref 41/\E1 H')) (hm:K.D.ha ff tb sh∈H₂)
  (I: ∀N:Nm,N.tab=tab->(Ik (Ib 84 q1) 271 [(Ib 270 q2)] [] q3 q4).chk (N.lam [(84,.free),(270,.free)])=true)
  (t:qp ((405,.many L)::(K.cd,.cell (some (.ref K.D.a)))::(K.cs,.cell (some st))::H₂) H R)
  (h1: ∀t L' x H',qC (f.env.qual++"<lambda>") 405 L'->Q1 x H'->Q (.ref t) ⟨loc,(t,.tup [.bool true,x])::((H'++[(405,.many L'),(K.cd,.cell (some (.ref K.D.a))),(K.cs,.cell (some st))])++R)⟩)
  (h2: ∀t L' H',qC (f.env.qual++"<lambda>") 405 L'->E1 H'->Q (.ref t) ⟨loc,(t,.tup [.bool false,.none])::((H'++[(405,.many L'),(K.cd,.cell (some (.ref K.D.a))),(K.cs,.cell (some st))])++R)⟩):
  xZ (g4 p) f n [(84,.free),(270,.free)] (Ik (Ib 84 q1) 271 [(Ib 270 q2)] [] q3 q4) q5 (λx σ=>qb (g4 p) f n (.fix (.ref 391)) [x] [] Q EE σ) EE ⟨loc,H⟩:=by
 refine xL gk (by exact (lk0 hk rfl)) ok hh hE (cl:=[(270,K.cs),(84,K.cd)]) (by simp [xg,hC.d,hC.s]) rfl (by
  show [(270,(f.cells.lookup 270).getD 0),(84,(f.cells.lookup 84).getD 0)]=_
  rw [hC.s,hC.d];rfl) rfl I hL t
  (Q0:=λL' x H'=>∃g,Q1 x g/\H'=g++[(405,.many L'),(K.cd,.cell (some (.ref K.D.a))),(K.cs,.cell (some st))])
  (E0:=λL' H'=>∃g,E1 g/\H'=g++[(405,.many L'),(K.cd,.cell (some (.ref K.D.a))),(K.cs,.cell (some st))])
  (λfa fo L' f' F J X=>?_) (λt L' x H' u hq=>?_) (λt L' H' u he=>?_)
 ·refine qe K.cd _ (by rw [J];rfl) (pm 2 rfl) ?_
  refine IZ qg gk F (C:=380) (.tail _ (.tail _ (.tail _ (.tail _ hm)))) (fa:=253) rfl rfl ?_
  refine qe K.cs _ (by rw [J];rfl) (pm 3 rfl) ?_
  refine IK gk F GF.f_PyFat_free_cluster_chain (qs.hd0 X A) (.under (.under (.under (.under (qp.refl H₂))))) (λy H' h'=>?_) λe H' h'=>?_
  ·exact qj _ (Iy (.refl _) (.drop (.refl _))) (qj H' h' rfl)
  ·exact qK _ (Iy (.refl _) (.drop (.refl _))) h'.1 (qj H' h'.2 rfl)
 ·(refine qf hq λg h z5=>?_;clear hq;subst z5)
  exact h1 t L' x g u h
 ·(refine qf he λg h z6=>?_;clear he;subst z6)
  exact h2 t L' g u h
theorem yf (hk:k<480) (ok:FOk (g4 p) f) (hh:f.hd=none) (hC:LC f K) (hE:qN p mg f) (kk:KOk K) (hI:zJ K S (f.env.qual++"<lambda>")) (a3:S.chs≠[])
  (h:NxP K (f.env.qual++"<lambda>") Q):
  wSs (g4 p) f (k+3) vg Q EE ⟨K.loc S.shut y5 y6 y13 y14 y15 y16 y17 y18 y19 y20 y21 y22 y23,(ra,.list (qd (rm K.n S.T)))::DK.ht tt S.T::K.G S ⟨z,some (.int w),s,some (.ref ra),nw,m,l,j,some (.ref tt)⟩⟩:=by
 have n9:=kk.B.n9
 refine qc (hI.wf.lens) λl1 l2=>?_
 have Z:=hI.len kk
 have u:=hI.wf.len
 rw [yq] at l1 u
 have g:0<S.chs.length:=WU.mpr a3
 refine qe K.cw _ hC.w (pm 4 rfl) ?_
 refine Iv (by decide) ?_
 refine IH (pm 21 rfl) (by rw [yq];exact (qq [.nl VA KK,.nl VB VA] (.nt VB KU) rfl n9.2 l1)) ?_
 rw [yq]
 refine Iv (WX.mpr g) ?_
 obtain ⟨kN,a1⟩: ∃kN:Nat,w % 16 % ((S.chs.length:Nat):Int)=(kN:Int):=(qx _ ((yz (Wj _ (by exact (λz0=>(zI [.nt KA VA,.ze (.c VA) UA] .ff [0,1,1] rfl g z0))))).symm))
 have C:kN<S.chs.length:=by
  have:=yZ (w % 16) (show (0:Int)<(S.chs.length:Nat) by exact (WX.mpr g))
  exact (wF [.ze ZA (.c VA),.zt ZA (.c VB)] (.nt VA VB) [1,-1,1] rfl a1 this)
 rw [a1]
 refine Xs (jM C) λA c B eA hA=>?_
 obtain ⟨MA,mk,MB,eM,J⟩:=jM (show kN<S.marks.length by exact (qR [.ne VA VB,.nt VC VA] (.nt VC VB) rfl u C))
 have a7:(c.1,O.list (qd c.2))∈qO S.chs:=jo (by rw [eA];exact yx _ (.head _))
 have I:c.2∈S.css:=yD.mpr (qj c (by rw [eA];exact yx _ (.head _)) rfl)
 have a8:=l2 _ I
 obtain ⟨st,a0⟩: ∃st,c.2[0]? =some st:=⟨_,yw (WU.mpr (hI.wf.ne _ I))⟩
 refine Ii (x:= .ref c.1) (pm 21 rfl) (yt _) (qR [.nl VA KK,.nl VB VA,.nt VC VB] (.zt (.c VC) UU) rfl n9.2 l1 C) (by rw [yW,yO,eA,<- hA,zL];rfl) ?_
 refine Ii (x:= .int (st:Nat)) (.tail _ (.tail _ (gmM (by assumption)))) (by decide) (by decide) (by show (qd c.2)[0]? =_;rw [yO,a0];rfl) ?_
 refine zX K.cs _ _ hC.s (uq2 gus) ?_
 cases hs:S.shut with
 |true=>
  refine kP gk (by exact (lk1 hk rfl)) ok hh hE hC hI.lt (A:=Zf gk (by exact (lk2 hk rfl)) (D:=K.D) (tb:=S.tb) (ff:=(S.ff:Nat)) (st:= .int (st:Nat))) (.head _) (λN hN=>by cases N;cases hN;rfl) (by dsimp only [LK.GM];rw [hs];exact (tk2 (tk9 (tk4 (.cons (rq8 (rq4 (rq1 rq0))) .nil))))) (λoo oo oo oo oo h=>h.elim) λt L' H' X h'=>?_
  subst h'
  refine UnP.not (H9 ?_)
  intro b2
  refine IF (k:=0) (.tail _ (.head _)) (.head _) (qa rfl (.inr (.inl (qx _ rfl)))) (qa rfl (.inl rfl)) (by show k+3+0+1<9900;exact (lk3 hk rfl)) ?_
  refine H9 (qX ?_)
  refine H9 (Ym ?_)
  exact h {S with L:=L',shut:=true} ⟨z,some (.int w),some (.int (st:Nat)),some (.ref ra),nw,m,l,j,some (.ref tt)⟩ _ _ _ _ _ _ _ _ _ _ _ _ _ _ _ ⟨hI.wf,hI.ff,hI.pt,X,hI.eT,hI.ed⟩ (IG ((tk3 (tk7 (tk7 (tk4 (tk6 (tk6 (tk6 (tk6 (tk3 (tk5 (tk5 (tk5 (tk5 (tk5 (tk2 (tk4 (tk4 (tk4 (tk4 (tk4 (tk4 (tk4 (tk4 (.under (.under (.under (.under (.refl _))))))))))))))))))))))))))))))
 |false=>
  have hw:=hI.wf
  have hT:=hI.tab kk
  have ec:S.css=A.map (·.2)++c.2::B.map (·.2):=by show S.chs.map _=_;rw [eA,yE,yH]
  have hl:(A.map (·.2)).length=MA.length:=by rw [yq];exact (xJ [.ne VA VB,.ne VC VB] (.ne VA VC) [1,-1,1] [1,1,-1] rfl hA J)
  have e1:S.css[kN]? =some c.2:=by rw [ec,<- hA];rw [show A.length=(A.map (·.2)).length from (yq ..).symm,zL]
  have e2:S.marks[kN]? =some mk:=by rw [eM,<- J,zL]
  have a5:=hT.chain hw e1 e2
  have a4:=hw.mks mk (yC e2)
  have a6: ∀x∈c.2,2<=x:=λx hx=>(hw.rng x (WT.mpr (qj _ I hx))).1
  rw [ec,eM] at hw hT
  refine kP gk (by exact (lk1 hk rfl)) ok hh hE hC hI.lt (A:=I5 (JI gk (by exact (lk2 hk rfl)) kk.D.kd (D:=K.D) (tb:=S.tb) (tbl:=S.T) (ff:=(S.ff:Nat)) a5 a4 (ls2 n9.2 Z rfl) a6 a0) (λoo oo h=>h) (λoo oo h=>h.elim)) (E1:=λoo=>False) (.head _) (λN hN=>by cases N;cases hN;rfl) (by dsimp only [LK.GM];rw [hs];exact (tk2 (tk9 (tk4 (.cons (rq8 (rq4 (rq1 rq0))) (.cons (rq8 (rq4 (rq2 (rq1 rq0)))) .nil)))))) (λt L' x H' X h'=>?_) λoo oo oo oo h=>h.elim
  (refine qc h' λz7 z9=>?_;refine qA z9 λa2 z8=>?_;clear h';subst z7;subst z8)
  rw [Xo]
  refine UnP.not (H9 ?_)
  intro b2
  refine IF (k:=0) (.tail _ (.head _)) (.head _) (qa rfl (.inr (.inl (qx _ rfl)))) (qa rfl (.inl rfl)) (by show k+3+0+1<9900;exact (lk3 hk rfl)) ?_
  refine H9 (qX ?_)
  refine H9 (vo ?_)
  refine II (pm 23 rfl) PySem.F.slot_list_pop PySem.F.type_list_pop ?_
  have eR:qL S.chs=qL A++V.ref c.1::qL B:=by rw [eA];exact yE ..
  have eX:S.marks.map V.int=MA.map V.int++V.int mk::MB.map V.int:=by rw [eM];exact yE ..
  refine qb.popAt (xs:=qL A) (y:= .ref c.1) (zs:=qL B) (by rw [eR];exact wE (uq4 (uq2 (uq1 uq0)))) (by rw [yq,hA]) (by rw [<- eR,yq];exact (ls1 n9.2 l1 rfl)) ?_
  refine II (pm 24 rfl) PySem.F.slot_list_pop PySem.F.type_list_pop ?_
  refine qb.popAt (xs:=MA.map V.int) (y:= .int mk) (zs:=MB.map V.int) (by rw [eX];exact wE (uq8 uq0)) (by rw [yq,J]) (by rw [<- eX,yq];exact (qQ [.nl VA KK,.nl VB VA,.ne VB VC] (.nl VC KT) [1,1,1,-1] rfl n9.2 l1 u)) ?_
  refine h {S with ff:=lowsN S.ff c.2,tb:=a2,T:=zK 0 S.T c.2,chs:=A++B,marks:=MA++MB,L:=L',shut:=false} ⟨z,some (.int w),some (.int (st:Nat)),some (.ref ra),nw,m,l,j,some (.ref tt)⟩ _ _ _ _ _ _ _ _ _ _ _ _ _ _ _ ⟨?_,FF.free hI.ff,hI.pt,X,?_,hI.ed⟩ (Jz (M:=qO S.chs) (by rw [eA];exact kq) (IG (by
   show qp (_::_::_::_::_::_::_::_::_::_::_::_::_::_::_::_::_::_::_::_::_::_::_) _ _
   rw [show qL (A++B)=qL A++qL B from yE ..,show (MA++MB).map V.int=MA.map V.int++MB.map V.int from yE ..]
   exact (tk4 (tk8 (tk8 (tk5 (tk7 (tk7 (tk7 (tk7 (tk4 (tk6 (tk6 (tk6 (tk6 (tk6 (tk2 (tk5 (tk5 (tk2 (tk4 (tk4 (tk4 (tk4 (tk4 (.under (.under (.under (.under (.refl _)))))))))))))))))))))))))))))))
  ·show WF _ _ _ ((A++B).map _) _
   rw [yE];exact hw.free hl
  ·show _=qY _ ((A++B).map _) _
   rw [yE];exact Xv kk.B hw hl hT
end
theorem vK {F:List UInt8} {p q:Int} (a m:Nat) (h1:p=a) (h2:q=a+m):cut F p q=(F.drop a).take m:=by
 subst h1 h2
 unfold cut
 rw [show ((a:Int)+(m:Int)).toNat - (a:Int).toNat=m by exact (LA [_,_,_,_,_] [] [.ne (.a VA VB) VC,.ze (.c VB) (.c VD),.ze (.c VC) (.a (.c VD) (.c VE))] (.ne VA VE) [1,-1,1,-1] [1,1,-1,1] rfl (yn (zN [.ze (.c VA) (.c VB),.ze (.c VC) (.a (.c VB) (.c VD))] (.nl VA VC) [1,1,-1] rfl (yz (yt _)) (yz (qq [] (.zl UA (.a (.c VA) (.c VB))) rfl)))) (yz (yt _)) (yz (qq [] (.zl UA (.a (.c VA) (.c VB))) rfl))),yW]
theorem wQ {ps:List (List UInt8)} {cs:List Nat} (h:cs[j]? =some c):((cs.take j).map λc=>V.bytes (ps.getD c []))++[.bytes (ps.getD c [])]=(cs.take (j+1)).map λc=>V.bytes (ps.getD c []):=by
 rw [zy h,yE];rfl
section
variable {p:GP} {mg mb:Str->Option yr} (gk:GOk (g4 p) mg mb) {K:LK} {S:LS} {q:Str}
include gk
theorem yk (hk:k<480) (ok:FOk (g4 p) f) (hh:f.hd=none) (hC:LC f K) (kk:KOk K) (hI:zJ K S q)
  (h:NxP K q Q):
  wSs (g4 p) f (k+3) vq Q EE ⟨K.loc S.shut y5 y6 y13 y14 y15 y16 y17 y18 y19 y20 y21 y22 y23,(ra,.list (qd (rm K.n S.T)))::DK.ht tt S.T::K.G S ⟨z,some (.int w),s,some (.ref ra),nw,m,l,j,some (.ref tt)⟩⟩:=by
 have n9:=kk.B.n9
 refine qc (hI.wf.lens) λl1 l2=>?_
 rw [yq] at l1
 have a2:=hI.len kk
 have hd:S.d.length<=10000:=by rw [hI.oct kk];have:=kk.lo;exact (qQ [.nl VA KK,.nl VB KO,.ne (.a VC KB) VA] (.nl (.a VB (.m 4 VC)) KR) [1,4,1,4] rfl n9.2 this (yn (lg0 n9.1 rfl)))
 generalize hZ:(⟨z,some (.int w),s,some (.ref ra),nw,m,l,j,some (.ref tt)⟩:LZ)=Z
 refine zC.list gk ok hh (xs:=qL S.chs) (λj σ=>∃y6 y16 x' H R,σ=⟨K.loc S.shut y5 y6 y13 y14 y15 y16 y17 y18 y19 y20 y21 y22 y23,H⟩/\H.Perm (K.G {S with x:=x'} Z++R)) (λj σ hi=>?_) (qW y6 y16 S.x (qU _ _ rfl (IG ((.under (.under (.refl _))))))) (λr j x σ J hj hi=>?_) (λσ hi=>?_)
 ·(refine zc hi λoo oo x' av=>?_;refine qB av λoo R aw t=>?_;clear hi;subst aw)
  exact t.mem_iff.mpr (yA _ (show (K.ca,O.list (qL S.chs))∈K.G {S with x:=x'} Z by exact pm 19 rfl))
 ·(refine zc hi λy6 y16 x' ar=>?_;refine qB ar λH R au t=>?_;clear hi;subst au)
  rw [yO] at hj
  (refine qf (WB.mp hj) λc az aq=>?_;subst aq)
  have hc:c∈S.chs:=yC az
  have b1:(c.1,O.list (qd c.2))∈qO S.chs:=jo hc
  have X:c.2∈S.css:=yD.mpr (qj c hc rfl)
  have a5:=l2 _ X
  have a0: ∀x∈c.2,2<=x/\x<K.n:=λx hx=>by
   have:=hI.wf.rng x (WT.mpr (qj _ X hx));exact qa this.1 this.2.1
  refine qA (Ds.mp hc) λi hi=>?_
  have e1:S.css[i]? =some c.2:=by rw [yO,hi];rfl
  refine qA (kj hI.wf.len e1) λmk e2=>?_
  have b0:=(hI.tab kk).chain hI.wf e1 e2
  have ay:=hI.wf.mks mk (yC e2)
  obtain ⟨st,a3⟩: ∃st,c.2[0]? =some st:=⟨_,yw (WU.mpr (hI.wf.ne _ X))⟩
  have up: ∀{x':Int} {H R:List (yu × O)},H.Perm (K.G {S with x:=x'} Z++R)->∀q∈K.G {S with x:=x'} Z,q∈H:=λt q hq=>t.mem_iff.mpr (yA _ hq)
  refine qe K.cd _ hC.at.d (up t _ (pm 8 rfl)) ?_
  refine IZ qg gk J (C:=380) (up t _ (show K.D.ha (S.ff:Nat) S.tb S.shut∈_ by exact pm 14 rfl)) (fa:=356) (by rfl) (by rfl) ?_
  refine Ii (x:= .int (st:Nat)) (up t _ (gmM (by assumption))) (by decide) (by decide) (by show (qd c.2)[0]? =_;rw [yO,a3];rfl) ?_
  have a4:(f.at r).hd=none:=hh
  refine kQ.of gk J a4 (by show k+3<1000;exact (lk1 hk rfl)) GF.gen rfl (Im (i:=7) (j:=247) GF.b_gen rfl) rfl rfl (Qf gk (tb:=S.tb) (by exact (lk2 hk rfl)) kk.D.kd b0 ay (by exact (ls2 n9.2 a2 rfl)) (λx hx=>(a0 x hx).1) a3) rfl (by simp [xg,hC.at.d])
   (λj ys H=>ys=(c.2.take j).map (λc=>V.bytes (S.ps.getD c []))/\∃x' R,H.Perm (K.G {S with x:=x'} Z++R)) (λj ys H D zf=>zf.elim λoo zf=>zf.elim λx' zf=>zf.elim λR t=>(qU (S.ff:Nat) S.shut (.tail _ (up t _ (pm 14 rfl))) (.tail _ (up t _ (pm 17 rfl))))) (λgs q m C j x ys H I hj hx hi=>?_) (λj ys H hi=>?_) (qa rfl (jH x' R t)) λys H Dm hi=>?_
  ·(refine qc hi λap ao=>?_;refine XM ao λx' R t=>?_;clear hi;subst ap)
   (refine qf hx λcn F an=>?_;clear hx;subst an)
   have g:=a0 cn (yC F)
   have a1:GOk (g4 {p with gs:=gs}) mg mb:=gk.gen
   change FOk (g4 {p with gs:=gs}) _ at I
   refine qe K.cd _ ((show _=some (((f.at r).cells.lookup 84).getD 0) from rfl).trans (by rw [hC.at.d];rfl)) (up t _ (pm 8 rfl)) ?_
   refine IZ qg a1 I (C:=380) (up t _ (show K.D.ha (S.ff:Nat) S.tb S.shut∈_ by exact pm 14 rfl)) (fa:=176) (by rfl) (by rfl) ?_
   refine qb.wkP t ?_
   refine IK a1 I GF.f_PyFat_read_cluster_contents (uT a1 (k:=k+3) (by exact (lk1 hk rfl)) (D:=K.D) (tb:=S.tb) (ff:=(S.ff:Nat)) (ro:=S.shut) (d:=S.d) (x:=x') (c:=(cn:Nat)) (by exact (ll0 hd rfl)) (by rw [kk.D.pl _ g.1];exact (yt _))) ((.cons (rq8 (rq4 (rq2 rq0))) (.cons (rq8 (rq4 (rq2 rq0))) (.cons (rq8 (rq4 (rq2 rq0))) .nil)))) (λy H' h'=>?_) λoo oo h=>h.elim
   (refine qc h' λam ak=>?_;refine qA ak λax al=>?_;clear h';subst am;subst al)
   refine qy (qx _ rfl) ?_ (jH ax _ (IG ((tk3 (tk3 (tk3 (tk3 (tk3 (tk3 (tk3 (tk3 (tk3 (tk3 (tk3 (tk3 (tk3 (tk3 (tk1 (.refl _)))))))))))))))))))
   rw [kk.D.pl _ g.1,show cut S.d ((plc K.lo cn:Nat):Int) ((plc K.lo cn:Nat)+4)=(S.d.drop (plc K.lo cn)).take 4 from vK _ _ rfl rfl,hI.ed,hI.pt.read (by exact (lg0 n9.1 rfl)) g.1 (by exact (yV g.2))]
   exact wQ F
  ·(refine qc hi λaj oo=>?_;clear hi;subst aj)
   rw [yq,Wx];exact (qR [.nl VA KK,.nl VB VA,.nl VC VB] (.nl VC KT) rfl n9.2 a5 (Fc _ _))
  ·(refine qc hi λai ah=>?_;refine XM ah λx' R t=>?_;clear hi;subst ai)
   rw [Bs]
   refine jL.list gk J a4 (xs:=qd c.2) rfl (by simp [xg,hC.at.p]) (λj ys H'=>ys=(c.2.take j).map (λc=>V.bytes (S.ps.getD c []))/\H'=(Dm,.list (c.2.map λc=>V.bytes (S.ps.getD c [])))::H) (λj ys H' hi=>?_) (λq m C j x ys H' I hx hi=>?_) (λj ys H' hi=>?_) (qa rfl rfl) λys H' D2 hi=>?_
   ·(refine qc hi λoo ag=>?_;clear hi;subst ag)
    exact .tail _ (up t _ (gmM (by assumption)))
   ·(refine qc hi λaf ae=>?_;clear hi;subst af;subst ae)
    (refine qf (jg hx) λcn F ac=>?_;subst ac)
    have g:=a0 cn (yC F)
    refine qe K.cp _ ((show _=some (((f.at r).cells.lookup 262).getD 0) from rfl).trans (by rw [hC.at.p];rfl)) (.tail _ (up t _ (pm 11 rfl))) ?_
    refine Ii (x:= .bytes (S.ps.getD cn [])) (.tail _ (up t _ (pm 21 rfl))) (by exact (yt _)) (by exact (lz0 n9.2 g.2 rfl)) (by rw [yW,yO,wl (d:=[]) (show cn<S.ps.length by rw [hI.pt.len];exact (qq [.nt VA VB] (.nt VA (.a VB KB)) rfl g.2))];rfl) ?_
    exact qy (qx _ rfl) (wQ F) rfl
   ·(refine qc hi λab oo=>?_;clear hi;subst ab)
    rw [yq,Wx];exact (qR [.nl VA KK,.nl VB VA,.nl VC VB] (.nl VC KT) rfl n9.2 a5 (Fc _ _))
   ·(refine qc hi λaa a9=>?_;clear hi;subst aa;subst a9)
    rw [yq,Bs]
    refine qm.neSm (k:=0) (.tail _ (.head _)) (.head _) rfl (λi u v e1 e2=>?_) (by show k+3+0+1<9900;exact (lk3 hk rfl)) ?_
    ·rw [e1] at e2
     obtain rfl:=Wc.inj e2
     rw [yO] at e1
     (refine qf (WB.mp e1) λcn oo a8=>?_;subst a8)
     exact qa rfl (.inr (.inr (.inr (qx _ rfl))))
    ·refine H9 (qX ?_)
     dsimp only [nxt,wSs,turn]
     exact qe _ H (.refl _) (.drop (.drop (.refl _))) (qW _ _ x' (qU H R rfl t))
 ·(refine zc hi λy6 y16 x' a6=>?_;refine qB a6 λH R a7 t=>?_;clear hi;subst a7)
  exact h {S with x:=x'} Z _ _ _ _ _ _ _ _ _ _ _ _ _ _ _ ⟨hI.wf,hI.ff,hI.pt,hI.lt,hI.eT,hI.ed⟩ t
end
theorem qp.rightA {a l b:List α} (h:qp a l b): ∀{m:List α},qp a (m++l) (m++b)
 |[]=>h
 |x::m=>(qp.rightA h (m:=m)).under
noncomputable def sg (T:List Int) (top:Int) (m:Nat):List Nat:=(HI 2 m).filter λc=>[(0:Int),top - 8].any (· ==T.getD c 1)
theorem vC:sg T top (m+1)=if [(0:Int),top - 8].any (· ==T.getD (2+m) 1) then sg T top m++[2+m] else sg T top m:=by
 unfold sg
 rw [List.range'_concat,FU,List.filter_cons,List.filter_nil,Nat.one_mul]
 split
 ·rfl
 ·rw [Wq]
theorem uP (h:c∈sg T top m):2<=c/\c<2+m/\(T.getD c 1=0\/T.getD c 1=top - 8):=by
 refine qc (BY.mp h) λh1 h2=>?_
 refine qc (Dl.mp h1) λh3 h4=>?_
 refine qy h3 (by exact h4) ?_
 simp only [D8,List.any_nil,HW,Hx,beq_iff_eq] at h2
 refine Or.elim h2 (λh=>?_) λh=>?_
 ·exact .inl h.symm
 ·exact .inr h.symm
theorem U7:(sg T top m).length<=m:=by
 refine yX (Fi _ _) ?_
 rw [FV];exact yM _
section
variable {p:GP} {mg mb:Str->Option yr} (gk:GOk (g4 p) mg mb) {K:LK} {S:LS}
include gk
theorem Yf (hk:n<500) (ok:FOk (g4 p) f) (hh:f.hd=none) (hE:qN p mg f) (hC:LC f K) (kk:KOk K) (hL:qC (f.env.qual++"<lambda>") 405 L) {st:Nat} (hc:S.T[st]? =some mk) (hm:mk=0\/mk=kTp K.D.kd - 8) (hz:S.T.length<=100)
  (u: ∀N:Nm,N.tab=tab->(E.callG (Ih 189 q6) (Ib 84 q1) 206 [(Ib 270 q2)] [] q3 q4 q7).chk (N.lam [(84,.free),(270,.free),(189,.globalImplicit)])=true)
  (t:qp [(405,.many L),(K.cd,.cell (some (.ref K.D.a))),(K.cs,.cell (some (.int (st:Nat)))),K.D.ha ff S.tb sh,DK.ht S.tb S.T] H R)
  (h2: ∀t L',qC (f.env.qual++"<lambda>") 405 L'->Q (.ref t) ⟨loc,(t,.tup [.bool false,.none])::[(405,.many L'),(K.cd,.cell (some (.ref K.D.a))),(K.cs,.cell (some (.int (st:Nat)))),K.D.ha ff S.tb sh,DK.ht S.tb S.T]++R⟩):
  xZ (g4 p) f n [(84,.free),(270,.free),(189,.globalImplicit)] (E.callG (Ih 189 q6) (Ib 84 q1) 206 [(Ib 270 q2)] [] q3 q4 q7) q5 (λx σ=>qb (g4 p) f n (.fix (.ref 391)) [x] [] Q EE σ) EE ⟨loc,H⟩:=by
 refine xL gk (by exact (lk0 hk rfl)) ok hh hE (cl:=[(270,K.cs),(84,K.cd)]) (by simp [xg,hC.d,hC.s]) rfl (by
  show [(270,(f.cells.lookup 270).getD 0),(84,(f.cells.lookup 84).getD 0)]=_
  rw [hC.s,hC.d];rfl) rfl u hL t
  (Q0:=λL' x H'=>False)
  (E0:=λL' H'=>H'=[(405,.many L'),(K.cd,.cell (some (.ref K.D.a))),(K.cs,.cell (some (.int (st:Nat)))),K.D.ha ff S.tb sh,DK.ht S.tb S.T])
  (λfa fo L' f' g F J=>?_) (λt L' x H' I hq=>hq.elim) (λt L' H' I he=>?_)
 ·refine qe K.cd _ (by rw [F];rfl) (pm 2 rfl) ?_
  refine IZ qg gk g (C:=380) (pm 4 rfl) (fa:=356) rfl rfl ?_
  refine qe K.cs _ (by rw [F];rfl) (pm 3 rfl) ?_
  refine xQ.listX gk g J (by show n+6+2<1000;exact (lk2 hk rfl)) GF.gen rfl (Im (i:=7) (j:=247) GF.b_gen rfl) rfl rfl (ZR gk (tb:=S.tb) (val:=λoo oo=>True) (by exact (lk3 hk rfl)) kk.D.kd hc hm hz) (λDg zs=>(qU ff sh (pm 5 rfl) (pm 6 rfl))) λx hx=>?_
  exact qK _ (.drop (.refl _)) hx rfl
 ·subst he
  exact h2 t L' I
theorem JT (hk:n<500) (ok:FOk (g4 p) f) (hh:f.hd=none) (hE:qN p mg f) (hC:LC f K) (hL:qC (f.env.qual++"<lambda>") 405 L) {st:V} {E1:List (yu × O)->Prop}
  (A: ∀er,qs (g4 p) (n+6) none (.ref 261) [.ref K.D.a,.bytes [110,101,119],st,.bool true,.bool er] [] H₂ (λoo oo=>False) (λx H'=>x.cls= .ref 41/\E1 H')) (hm:K.D.ha ff tb sh∈H₂)
  (t:qp ((405,.many L)::(K.cd,.cell (some (.ref K.D.a)))::(K.cs,.cell (some st))::(K.cw,.cell (some (.int w)))::H₂) H R)
  (h2: ∀t L' H',qC (f.env.qual++"<lambda>") 405 L'->E1 H'->Q (.ref t) ⟨loc,(t,.tup [.bool false,.none])::((H'++[(405,.many L'),(K.cd,.cell (some (.ref K.D.a))),(K.cs,.cell (some st)),(K.cw,.cell (some (.int w)))])++R)⟩):
  xZ (g4 p) f n [(84,.free),(270,.free),(266,.free)] (Ik (Ib 84 395040044) 275 [(I1 [110,101,119] 395067073),(Ib 270 395075080),(It true 395082086),(Ij .Eq (Ig .Mod (Ig .FloorDiv (Ib 266 395088089) (Ia 48 395093095) 395088095) (Ia 2 395098099) 395088099) (Ia 1 395103104) 395088104)] [] 395040066 395040105) 395032105 (λx σ=>qb (g4 p) f n (.fix (.ref 391)) [x] [] Q EE σ) EE ⟨loc,H⟩:=by
 refine xL gk (by exact (lk0 hk rfl)) ok hh hE (cl:=[(266,K.cw),(270,K.cs),(84,K.cd)]) (by simp [xg,hC.d,hC.s,hC.w]) rfl (by
  show [(266,(f.cells.lookup 266).getD 0),(270,(f.cells.lookup 270).getD 0),(84,(f.cells.lookup 84).getD 0)]=_
  rw [hC.w,hC.s,hC.d];rfl) rfl (λN hN=>by cases N;cases hN;rfl) hL t
  (Q0:=λL' x H'=>False)
  (E0:=λL' H'=>∃g,E1 g/\H'=g++[(405,.many L'),(K.cd,.cell (some (.ref K.D.a))),(K.cs,.cell (some st)),(K.cw,.cell (some (.int w)))])
  (λfa fo L' f' F u X=>?_) (λt L' x H' I hq=>hq.elim) (λt L' H' I he=>?_)
 ·refine qe K.cd _ (by rw [u];rfl) (pm 2 rfl) ?_
  refine IZ qg gk F (C:=380) (.tail _ (.tail _ (.tail _ (.tail _ (.tail _ hm))))) (fa:=261) rfl rfl ?_
  refine qe K.cs _ (by rw [u];rfl) (pm 3 rfl) ?_
  refine qe K.cw _ (by rw [u];rfl) (pm 4 rfl) ?_
  refine IQ (by decide) (.inl (by decide)) ?_
  refine Iv (by decide) ?_
  refine Ix ?_
  refine IK gk F GF.f_PyFat_write_data_to_cluster (qs.hd0 X (A _)) (.under (.under (.under (.under (.under (qp.refl H₂)))))) (λoo oo h=>h.elim) λe H' h'=>?_
  exact qK _ (Iy (.refl _) (.drop (.refl _))) h'.1 (qj H' h'.2 rfl)
 ·(refine qf he λg h J=>?_;clear he;subst J)
  exact h2 t L' g I h
theorem ye (hk:k<480) (ok:FOk (g4 p) f) (hh:f.hd=none) (hC:LC f K) (hE:qN p mg f) (kk:KOk K) (hI:zJ K S (f.env.qual++"<lambda>"))
  (h:NxP K (f.env.qual++"<lambda>") Q):
  wSs (g4 p) f (k+3) Jg Q EE ⟨K.loc S.shut y5 y6 y13 y14 y15 y16 y17 y18 y19 y20 y21 y22 y23,(ra,.list (qd (rm K.n S.T)))::DK.ht tt S.T::K.G S ⟨z,some (.int w),s,some (.ref ra),nw,m,l,j,some (.ref tt)⟩⟩:=by
 have n9:=kk.B.n9
 have u:=hI.len kk
 have hT:=hI.tab kk
 have fin: ∀(sh:Bool) (t:yu) (L':List (yu × Obj)) (s':Option V) (y22 y23:Option V) (H' R:List (yu × O)),qC (f.env.qual++"<lambda>") 405 L'->qp ((t,.tup [.bool false,.none])::K.G {S with L:=L',shut:=sh} ⟨z,some (.int w),s',some (.ref ra),nw,m,l,j,some (.ref tt)⟩) H' R->
   wSs (g4 p) f (k+3) (Jg.drop 4) Q EE ⟨K.loc sh y5 y6 y13 y14 y15 (some (.ref t)) y17 y18 y19 y20 y21 y22 y23,H'⟩:=λsh t L' s' y22 y23 H' R g tk=>by
  intro b2
  refine IF (k:=0) (.tail _ (tk.perm.mem_iff.mpr (.head _))) (.head _) (qa rfl (.inr (.inl (qx _ rfl)))) (qa rfl (.inl rfl)) (by show k+3+0+1<9900;exact (lk3 hk rfl)) ?_
  refine H9 (qX ?_)
  exact h {S with L:=L',shut:=sh} ⟨z,some (.int w),s',some (.ref ra),nw,m,l,j,some (.ref tt)⟩ _ _ _ _ _ _ _ _ _ _ _ _ _ _ ((b2,.tup [.bool false,.none])::(t,.tup [.bool false,.none])::R) ⟨hI.wf,hI.ff,hI.pt,g,hI.eT,hI.ed⟩ (by
   have t1:=(tk.perm.cons (b2,O.tup [.bool false,.none]))
   refine t1.trans ?_
   refine (List.Perm.append_left [(b2,O.tup [.bool false,.none]),(t,O.tup [.bool false,.none])] (List.Perm.refl (K.G {S with L:=L',shut:=sh} ⟨z,some (.int w),s',some (.ref ra),nw,m,l,j,some (.ref tt)⟩++R))).trans ?_
   rw [<- yG]
   refine (WA.append_right R).trans ?_
   rw [yG];exact .refl _)
 refine IV λr=>?_
 generalize hZ:(⟨z,some (.int w),s,some (.ref ra),nw,m,l,j,some (.ref tt)⟩:LZ)=Z
 generalize a2:(r,O.rng 2 ((K.n:Nat):Int) 1)::(ra,.list (qd (rm K.n S.T)))::DK.ht tt S.T::K.G S Z=H0
 have dm: ∀{q:yu × O} {X:List (yu × O)},q∈(r,O.rng 2 ((K.n:Nat):Int) 1)::(ra,.list (qd (rm K.n S.T)))::DK.ht tt S.T::K.G S Z->q∈X++H0:=λh=>yx _ (a2 ▸ h)
 have af:(K.ct,O.cell (some (.ref tt)))∈(r,O.rng 2 ((K.n:Nat):Int) 1)::(ra,.list (qd (rm K.n S.T)))::DK.ht tt S.T::K.G S Z:=by subst hZ;exact pm 13 rfl
 have J: ∀i:Nat,i<K.n->S.T[i]? =some (S.T.getD i 1):=λi hi=>wl (by rw [u];exact hi)
 refine ju.range gk ok hh (r:=r) (by rw [<- a2];exact .head _) (qa (by decide) (by decide)) (qa (by exact (qD [] (.zl (.n UV) (.c VA)) rfl)) (by exact (lz2 n9.2 rfl))) rfl (by simp [xg,hC.t,hC.top]) (λj ys H'=>∃X,ys=qd (sg S.T (kTp K.D.kd) j)/\j<=K.n/\H'=X++H0) (λq m C j ys H' aj hj hi=>?_) (λj ys H' hi=>?_) (qK [] rfl (WI _) rfl) λys H' Dm hi=>?_
 ·(refine zk hi λX ae F ac=>?_;clear hi;subst ae;subst ac)
  refine qe K.ct _ ((show _=some ((f.cells.lookup 257).getD 0) from rfl).trans (by rw [hC.t];rfl)) (dm af) ?_
  refine Ii (x:= .int (S.T.getD (2+j) 1)) (dm (pm 2 rfl)) (qD [] (.zl UA (.a UC (.c VA))) rfl) (qq [.nl VA KK,.zt (.c VB) (.s (.c VA) UC)] (.zt (.a UC (.c VB)) UU) rfl n9.2 hj) (by rw [show ((2:Int)+(j:Int)).toNat=2+j by exact (zH [.ze (.c VA) (.a UC (.c VB))] (.ne VA (.a KC VB)) [1,-1] [1,1] rfl (yz (qD [] (.zl UA (.a UC (.c VA))) rfl))),yO,J (2+j) (by exact (qq [.zt (.c VA) (.s (.c VB) UC)] (.nt (.a KC VA) VB) rfl hj))];rfl) ?_
  refine qe K.ctop _ ((show _=some ((f.cells.lookup 253).getD 0) from rfl).trans (by rw [hC.top];rfl)) (dm (pm 16 rfl)) ?_
  refine IB ?_
  intro b
  refine qm.inTup (ns:=[0,kTp K.D.kd - 8]) (.head _) (by show k+3+2<9900;exact (lk2 hk rfl)) ?_
  have es:=vC (T:=S.T) (top:=kTp K.D.kd) (m:=j)
  refine H9 (qa (λe=>?_) (λe=>?_))
  ·rw [e,if_pos rfl] at es
   exact qa (qx _ rfl) (qK ((b,_)::X) (by rw [es,show (2:Int)+(j:Int)=((2+j:Nat):Int) by exact (qD [] (.ze (.a UC (.c VA)) (.c (.a KC VA))) rfl)];exact xk) (qq [.zt (.c VA) (.s (.c VB) UC)] (.nl (.a VA KB) VB) rfl hj) rfl)
  ·rw [e,if_neg (by decide)] at es
   exact qa (qx _ rfl) (qK ((b,_)::X) (by rw [es]) (qq [.zt (.c VA) (.s (.c VB) UC)] (.nl (.a VA KB) VB) rfl hj) rfl)
 ·(refine zk hi λX ab F oo=>?_;clear hi;subst ab)
  have:=U7 (T:=S.T) (top:=kTp K.D.kd) (m:=j)
  rw [yq];exact (qR [.nl VA KK,.nl VB VA,.nl VC VB] (.nl VC KT) rfl n9.2 F this)
 ·(refine zk hi λX aa F a9=>?_;clear hi;subst aa;subst a9)
  generalize a1:sg S.T (kTp K.D.kd) ((K.n:Int) - 2).toNat=SL
  have ag: ∀c∈SL,2<=c/\c<K.n/\∃v,S.T[c]? =some v/\(v=0\/v=kTp K.D.kd - 8):=λc hc=>by
   refine qZ (uP (a1 ▸ hc)) λh1 h2 h3=>?_
   exact qy h1 (qR [.nt VA (.a KC VB),.ze (.c VB) (.s (.c VC) UC)] (.nt VA VC) rfl h2 (yz (qD [.nl KJ VA] (.zl UA (.s (.c VA) UC)) rfl n9.1))) (qj _ (J c (qR [.nt VA (.a KC VB),.ze (.c VB) (.s (.c VC) UC)] (.nt VA VC) rfl h2 (yz (qD [.nl KJ VA] (.zl UA (.s (.c VA) UC)) rfl n9.1)))) h3)
  have a7:SL.length<=20:=by rw [<- a1];exact yX U7 (ls1 n9.2 F rfl)
  have a0:0<SL.length:=by
   refine WU.mpr (List.ne_nil_of_mem (a:=K.n - 1) ?_)
   rw [<- a1]
   refine BY.mpr (qa (Dl.mpr (qa (qM [.nl KJ VA,.ne (.a VB KB) VA] (.nl KC VB) [1,1,-1] rfl n9.1 (yn (lg0 n9.1 rfl))) (qQ [.ze (.c VA) (.s (.c VB) UC),.ne (.a VC KB) VB] (.nt VC (.a KC VA)) [1,-1,1] rfl (yz (qD [.nl KJ VA] (.zl UA (.s (.c VA) UC)) rfl n9.1)) (yn (lg0 n9.1 rfl))))) ?_)
   have e:=hT.bad _ kk.B.last
   rw [J (K.n - 1) (by exact (qq [.ne (.a VA KB) VB] (.nt VA VB) rfl (yn (lg0 n9.1 rfl))))] at e
   rw [Wc.inj e]
   simp
  subst a2 hZ
  refine qe K.cw _ hC.w (.tail _ (dm (pm 5 rfl))) ?_
  refine Iv (by decide) ?_
  refine qb.wk (.cons .head (qp.rightA (.under (.under (.under (qp.refl _)))))) ?_
  refine IH (.head _) (by rw [yq];exact (ln0 a7 rfl)) ?_
  rw [yq]
  refine Iv (WX.mpr a0) ?_
  obtain ⟨iN,a5⟩: ∃iN:Nat,w % 16 % ((SL.length:Nat):Int)=(iN:Int):=(qx _ ((yz (Wj _ (by exact (λz0=>(zI [.nt KA VA,.ze (.c VA) UA] .ff [0,1,1] rfl a0 z0))))).symm))
  have a6:iN<SL.length:=by
   have:=yZ (w % 16) (show (0:Int)<(SL.length:Nat) by exact (WX.mpr a0))
   exact (wF [.ze ZA (.c VA),.zt ZA (.c VB)] (.nt VA VB) [1,-1,1] rfl a5 this)
  rw [a5]
  obtain ⟨st,a4⟩: ∃st,SL[iN]? =some st:=(qx _ (yw a6))
  (refine qZ (ag st (yC a4)) λai ah a8=>?_;refine qf a8 λv hv I=>?_)
  refine Ii (x:= .int (st:Nat)) (.head _) (yt _) (lz0 a7 a6 rfl) (by rw [yW,yO,a4];rfl) ?_
  refine zX K.cs _ _ hC.s (uq1 gus) ?_
  refine qe K.cw _ hC.w (pm 3 rfl) ?_
  refine IQ (by decide) (.inl (by decide)) ?_
  refine Iv (by decide) ?_
  have a3:0<=w / 16 % 3/\w / 16 % 3<3:=by exact qa (za [.zl UA ZA] (.zl UA ZA) rfl (Wj _ (by decide))) (za [.zt ZA UD] (.zt ZA UD) rfl (yZ _ (by decide)))
  generalize w / 16 % 3=way at a3 |-
  refine Ix (H9 (jV (λh0=>?_) λh0=>?_))
  ·cases hs:S.shut with
   |true=>
    refine kP gk (by exact (lk1 hk rfl)) ok hh hE hC hI.lt (A:=Zf gk (by exact (lk2 hk rfl)) (D:=K.D) (tb:=S.tb) (ff:=(S.ff:Nat)) (st:= .int (st:Nat))) (.head _) (λN hN=>by cases N;cases hN;rfl) (by dsimp only [LK.GM];rw [hs];exact (tk1 (tk8 (tk3 (.cons (rq8 (rq4 rq0)) .nil))))) (λoo oo oo oo oo h=>h.elim) λt L' H' g h'=>?_
    subst h'
    exact fin _ t L' (some (.int (st:Nat))) _ _ _ _ g ((tk0 (tk1 (tk4 (tk4 (tk2 (tk3 (tk3 (tk3 (tk3 (tk1 (tk2 (tk2 (tk2 (tk2 (tk2 (tk0 (tk1 (tk1 (tk1 (tk1 (tk1 (tk1 (tk1 (tk1 (.under (.refl _)))))))))))))))))))))))))))
   |false=>
    refine kP gk (by exact (lk1 hk rfl)) ok hh hE hC hI.lt (A:=X3 gk (by exact (lk2 hk rfl)) kk.D.kd (D:=K.D) (tb:=S.tb) (ff:=(S.ff:Nat)) hv I (ls2 n9.2 u rfl)) (.head _) (λN hN=>by cases N;cases hN;rfl) (by dsimp only [LK.GM];rw [hs];exact (tk1 (tk8 (tk3 (.cons (rq8 (rq4 rq0)) (.cons (rq8 (rq4 (rq2 rq0))) .nil)))))) (λoo oo oo oo oo h=>h.elim) λt L' H' g h'=>?_
    subst h'
    exact fin _ t L' (some (.int (st:Nat))) _ _ _ _ g ((tk0 (tk2 (tk5 (tk5 (tk3 (tk4 (tk4 (tk4 (tk4 (tk2 (tk3 (tk3 (tk3 (tk3 (tk3 (tk0 (tk2 (tk2 (tk0 (tk1 (tk1 (tk1 (tk1 (tk1 (.under (.refl _)))))))))))))))))))))))))))
  refine Ix (H9 (jV (λh1=>?_) λh1=>?_))
  ·refine Yf gk (by exact (lk1 hk rfl)) ok hh hE hC kk hI.lt hv I (ls2 n9.2 u rfl) (λN hN=>by cases N;cases hN;rfl) (ff:=(S.ff:Nat)) (sh:=S.shut) ((tk1 (tk8 (tk3 (.cons (rq8 (rq4 rq0)) (.cons (rq8 (rq4 (rq2 rq0))) .nil)))))) λt L' g=>?_
   exact fin S.shut t L' (some (.int (st:Nat))) _ _ _ _ g ((tk0 (tk0 (tk5 (tk5 (tk1 (tk4 (tk4 (tk4 (tk4 (tk0 (tk3 (tk3 (tk3 (tk3 (tk3 (tk0 (tk2 (tk2 (tk0 (tk1 (tk1 (tk1 (tk1 (tk1 (.under (.refl _)))))))))))))))))))))))))))
  ·cases hs:S.shut with
   |true=>
    refine JT gk (by exact (lk1 hk rfl)) ok hh hE hC hI.lt (A:=λer=>wT gk (by exact (lk2 hk rfl)) (D:=K.D) (tb:=S.tb) (ff:=(S.ff:Nat)) (st:= .int (st:Nat))) (.head _) (by dsimp only [LK.GM];rw [hs];exact (tk1 (tk8 (tk3 (tk2 (ZK .nil)))))) λt L' H' g h'=>?_
    subst h'
    exact fin _ t L' (some (.int (st:Nat))) _ _ _ _ g ((tk0 (tk1 (tk5 (tk3 (tk2 (tk3 (tk3 (tk3 (tk3 (tk1 (tk2 (tk2 (tk2 (tk2 (tk2 (tk0 (tk1 (tk1 (tk1 (tk1 (tk1 (tk1 (tk1 (tk1 (.under (.refl _)))))))))))))))))))))))))))
   |false=>
    refine JT gk (by exact (lk1 hk rfl)) ok hh hE hC hI.lt (A:=λer=>Xa gk (by exact (lk2 hk rfl)) kk.D (tb:=S.tb) (ff:=(S.ff:Nat)) hv I (ls2 n9.2 u rfl) (by decide)) (.head _) (by dsimp only [LK.GM];rw [hs];exact (tk1 (tk8 (tk3 (tk2 (ZK (.cons (rq8 (rq4 (rq1 rq0))) .nil))))))) λt L' H' g h'=>?_
    subst h'
    exact fin _ t L' (some (.int (st:Nat))) _ _ _ _ g ((tk0 (tk2 (tk6 (tk4 (tk3 (tk4 (tk4 (tk4 (tk4 (tk2 (tk3 (tk3 (tk3 (tk3 (tk3 (tk0 (tk2 (tk2 (tk0 (tk1 (tk1 (tk1 (tk1 (tk1 (.under (.refl _)))))))))))))))))))))))))))
end
theorem XO {ps:List (List UInt8)}: ∀{j:Nat},(wP er new ps seg j).length=ps.length:=by
 intro j
 induction j with
 |zero=>rfl
 |succ j ih=>rw [wP_c,Bj,ih]
section
variable {p:GP} {mg mb:Str->Option yr} (gk:GOk (g4 p) mg mb) {K:LK} {S:LS}
include gk
theorem k6 (hk:n<500) (ok:FOk (g4 p) f) (hh:f.hd=none) (hE:qN p mg f) (hC:LC f K) (hL:qC (f.env.qual++"<lambda>") 405 L) {st:V} {E1:List (yu × O)->Prop}
  (A:qs (g4 p) (n+6) none (.ref 261) [.ref K.D.a,.bytes new,st,.bool ex,.bool er] [] H₂ Q1 (λx H'=>x.cls= .ref 41/\E1 H')) (hm:K.D.ha ff tb sh∈H₂)
  (t:qp ((405,.many L)::(K.cd,.cell (some (.ref K.D.a)))::(K.cn,.cell (some (.bytes new)))::(K.cs,.cell (some st))::(K.cl,.cell (some (.bool ex)))::(K.cz,.cell (some (.bool er)))::H₂) H R)
  (h1: ∀t L' x H',qC (f.env.qual++"<lambda>") 405 L'->Q1 x H'->Q (.ref t) ⟨loc,(t,.tup [.bool true,x])::((H'++[(405,.many L'),(K.cd,.cell (some (.ref K.D.a))),(K.cn,.cell (some (.bytes new))),(K.cs,.cell (some st)),(K.cl,.cell (some (.bool ex))),(K.cz,.cell (some (.bool er)))])++R)⟩)
  (h2: ∀t L' H',qC (f.env.qual++"<lambda>") 405 L'->E1 H'->Q (.ref t) ⟨loc,(t,.tup [.bool false,.none])::((H'++[(405,.many L'),(K.cd,.cell (some (.ref K.D.a))),(K.cn,.cell (some (.bytes new))),(K.cs,.cell (some st)),(K.cl,.cell (some (.bool ex))),(K.cz,.cell (some (.bool er)))])++R)⟩):
  xZ (g4 p) f n [(84,.free),(272,.free),(274,.free),(270,.free),(268,.free)] (Ik (Ib 84 377032036) 275 [(Ib 274 377059062),(Ib 270 377064069),(Ib 272 377071077),(Ib 268 377079085)] [] 377032058 377032086) 377024086 (λx σ=>qb (g4 p) f n (.fix (.ref 391)) [x] [] Q EE σ) EE ⟨loc,H⟩:=by
 refine xL gk (by exact (lk0 hk rfl)) ok hh hE (cl:=[(268,K.cz),(270,K.cs),(274,K.cn),(272,K.cl),(84,K.cd)]) (by simp [xg,hC.d,hC.s,hC.l,hC.nw,hC.z]) rfl (by
  show [(268,(f.cells.lookup 268).getD 0),(270,(f.cells.lookup 270).getD 0),(274,(f.cells.lookup 274).getD 0),(272,(f.cells.lookup 272).getD 0),(84,(f.cells.lookup 84).getD 0)]=_
  rw [hC.z,hC.s,hC.nw,hC.l,hC.d];rfl) rfl (λN hN=>by cases N;cases hN;rfl) hL t
  (Q0:=λL' x H'=>∃g,Q1 x g/\H'=g++[(405,.many L'),(K.cd,.cell (some (.ref K.D.a))),(K.cn,.cell (some (.bytes new))),(K.cs,.cell (some st)),(K.cl,.cell (some (.bool ex))),(K.cz,.cell (some (.bool er)))])
  (E0:=λL' H'=>∃g,E1 g/\H'=g++[(405,.many L'),(K.cd,.cell (some (.ref K.D.a))),(K.cn,.cell (some (.bytes new))),(K.cs,.cell (some st)),(K.cl,.cell (some (.bool ex))),(K.cz,.cell (some (.bool er)))])
  (λfa fo L' f' I u Z=>?_) (λt L' x H' F hq=>?_) (λt L' H' F he=>?_)
 ·refine qe K.cd _ (by rw [u];rfl) (pm 2 rfl) ?_
  refine IZ qg gk I (C:=380) (.tail _ (.tail _ (.tail _ (.tail _ (.tail _ (.tail _ (.tail _ hm))))))) (fa:=261) rfl rfl ?_
  refine qe K.cn _ (by rw [u];rfl) (pm 3 rfl) ?_
  refine qe K.cs _ (by rw [u];rfl) (pm 4 rfl) ?_
  refine qe K.cl _ (by rw [u];rfl) (pm 5 rfl) ?_
  refine qe K.cz _ (by rw [u];rfl) (pm 6 rfl) ?_
  refine IK gk I GF.f_PyFat_write_data_to_cluster (qs.hd0 Z A) (.under (.under (.under (.under (.under (.under (.under (qp.refl H₂)))))))) (λy H' h'=>?_) λe H' h'=>?_
  ·exact qj _ (Iy (.refl _) (.drop (.refl _))) (qj H' h' rfl)
  ·exact qK _ (Iy (.refl _) (.drop (.refl _))) h'.1 (qj H' h'.2 rfl)
 ·(refine qf hq λg h X=>?_;clear hq;subst X)
  exact h1 t L' x g F h
 ·(refine qf he λg h J=>?_;clear he;subst J)
  exact h2 t L' g F h
theorem Zb (ok:FOk (g4 p) f) (hh:f.hd=none) (hC:LC f K) (a2: ∀c∈seg,c<S.ps.length) (hz:S.ps.length<=100) (a3: ∀j<seg.length,∀er new,((wP er new S.ps seg j).getD (seg.getD j 0) []).length<=4) (a5:Z.nw=some (.bytes new)) (a1:Z.z=some (.bool er)) (a6:new.length<=100) (ab:seg.length<=100) (a4:vS nb 0 oi)
  (t:qp ((e,.raw (Zz it 0 .none))::(it,.raw oi)::(nb,.list (qd seg))::K.GM S Z M) H R)
  (h: ∀y5 y20 y21,Q .next ⟨K.loc sh y5 y6 y13 y14 y15 y16 y17 y18 y19 y20 y21 y22 y23,(nb,.list (qd seg))::K.GM {S with ps:=wP er new S.ps seg seg.length} Z M⟩):
  zC (g4 p) f (k+3) (.tup [(20,q0),(5,q1)] 0 q2) (.ref e) [Mine.Internal.S.asg (.one 21 384020024) (IS (Ib 274 384027030) (some (Ig .Mult (Ia 4 384031032) (H8 20 384035036) 384031036)) (some (Ig .Add (Ig .Mult (Ia 4 384037038) (H8 20 384041042) 384037042) (Ia 4 384045046) 384037046)) 384027047 384031046) 384020047,
          Mine.Internal.S.ass (Ib 262 385020025) (H8 5 385026027) (Ig .Add (H8 21 385031035) (IS (E.ite (Ib 268 385054060) (Ig .Mult (I1 [0] 385039046) (Ia 4 385049050) 385039050) (Io (Ib 262 385066071) (H8 5 385072073) 385066074) 385039074) (some (Ie (Ih 9 385076079) [(H8 21 385080084)] [] 385076085)) none 385038087 385076086) 385031087) 385020028 385020087] [] Q EE ⟨K.loc sh y5 y6 y13 y14 y15 y16 y17 y18 y19 y20 y21 y22 y23,H⟩:=by
 refine zC.wk t ?_
 refine zC.enum gk ok hh (λk oi h q=>by rw [h.1] at q;injection q with q;exact absurd q (by decide)) (ki (l:=nb) (xs:=qd seg)) a4
  (λj σ=>∃y5 y20 y21,σ=⟨K.loc sh y5 y6 y13 y14 y15 y16 y17 y18 y19 y20 y21 y22 y23,(nb,.list (qd seg))::K.GM {S with ps:=wP er new S.ps seg j} Z M⟩) (λj σ hi=>?_) (qW y5 y20 y21 rfl) (λq j T y σ aa hj hi=>?_) (λσ hi=>?_)
 ·(refine zc hi λoo oo oo a0=>?_;clear hi;subst a0)
  exact .head _
 ·(refine zc hi λy5 y20 y21 X=>?_;clear hi;subst X)
  (refine qf (jg hj) λc C J=>?_;subst J)
  have g:=a2 c (yC C)
  have a7:=qw C
  have F:seg.getD j 0=c:=zd C
  have h4:=a3 j a7 er new
  rw [F] at h4
  refine wD.tup (show (f.at q).hd=none from hh) (.head _) rfl ?_
  dsimp only [sts,st]
  have a9:(K.cn,O.cell (some (.bytes new)))∈K.GM {S with ps:=wP er new S.ps seg j} Z M:=by rw [<- a5];exact pm 5 rfl
  have a8:(K.cz,O.cell (some (.bool er)))∈K.GM {S with ps:=wP er new S.ps seg j} Z M:=by rw [<- a1];exact pm 1 rfl
  refine qe K.cn _ hC.at.nw (.tail _ (.tail _ a9)) ?_
  refine IP (by first|exact .inl (qa (by decide) (by decide))|exact .inr (.inl ⟨by decide,by decide⟩)) ?_
  refine IP (by first|exact .inl (qa (by decide) (by decide))|exact .inr (.inl ⟨by decide,by decide⟩)) ?_
  refine Iz ?_
  refine qv.cutBE (c:=(new.drop (4*j)).take 4) (4*j) 4 (by exact (qD [] (.ze (.m 4 (.c VA)) (.c (.m 4 VA))) rfl)) (by exact (qD [] (.ze (.a (.m 4 (.c VA)) UF) (.a (.c (.m 4 VA)) UF)) rfl)) (ll0 a6 rfl) rfl ?_
  refine qe K.cz _ hC.at.z (.tail _ (.tail _ a8)) (H9 ?_)
  have u:((new.drop (4*j)).take 4).length<=4:=by rw [Wx];exact (ll0 (Ft _ _) rfl)
  cases er with
  |true=>
   refine ke ?_
   refine qo.repBE (c:=z4) (by simp) (by simp) (by decide) (by decide) rfl ?_
   refine IW (ll0 u rfl) ?_
   refine qv.dropYE (c:=(z4).drop ((new.drop (4*j)).take 4).length) (by decide) rfl ?_
   refine qo.addB (by rw [Ws];show _+(4 - _)<=_;exact (qq [.ne (.a VA VB) KF] (.nl (.a VB VA) KT) rfl (yn u))) ?_
   refine qe K.cp _ hC.at.p (pm 13 rfl) ?_
   refine IJ (wE (uq4 (uq2 (uq1 uq0)))) (yt _) (lz0 hz g rfl) (by rw [yq,XO];exact (Bg.mpr g)) ?_
   rw [yW,kZ]
   dsimp only [nxt,wSs,turn]
   refine qe _ _ (.refl _) (.drop (.refl _)) (qW (some (.int (c:Nat))) (some (.int (j:Nat))) (some (.bytes ((new.drop (4*j)).take 4))) ?_)
   rw [wP_c,F];rfl
  |false=>
   refine qX ?_
   refine qe K.cp _ hC.at.p (pm 13 rfl) ?_
   refine Ii (x:= .bytes ((wP false new S.ps seg j).getD c [])) (pm 23 rfl) (yt _) (lz0 hz g rfl) (by rw [yW,yO,wl (d:=[]) (show c<(wP false new S.ps seg j).length by rw [XO];exact g)];rfl) ?_
   refine IW (ll0 u rfl) ?_
   refine qv.dropYE (c:=((wP false new S.ps seg j).getD c []).drop ((new.drop (4*j)).take 4).length) (ll0 h4 rfl) rfl ?_
   refine qo.addB (by rw [Ws];exact (qR [.nl VA KF,.nl VB KF,.nl VC VB] (.nl (.a VA VC) KT) rfl u h4 (Nat.sub_le _ _))) ?_
   refine qe K.cp _ hC.at.p (pm 13 rfl) ?_
   refine IJ (wE (uq4 (uq2 (uq1 uq0)))) (yt _) (lz0 hz g rfl) (by rw [yq,XO];exact (Bg.mpr g)) ?_
   rw [yW,kZ]
   dsimp only [nxt,wSs,turn]
   refine qe _ _ (.refl _) (.drop (.refl _)) (qW (some (.int (c:Nat))) (some (.int (j:Nat))) (some (.bytes ((new.drop (4*j)).take 4))) ?_)
   rw [wP_c,F];rfl
 ·(refine zc hi λy5 y20 y21 I=>?_;clear hi;subst I)
  have:=h y5 y20 y21
  rw [yq];exact this
end
theorem wM (h:Ch T m c) (hq:q<c.length):Ch T m (c.drop q):=by
 refine qc (km.mp h) λh1 h2=>?_
 refine km.mpr (qa (λe=>by have:=congrArg HB e;rw [Ws] at this;simp at this;exact (qQ [.nt VA VB,.ne VC KA,.ne (.a VC VA) VB] .ff [0,1,1,-1] rfl hq this (yn (yV hq)))) (λj x e=>?_))
 rw [WZ] at e
 have:=h2 (q+j) x e
 rw [this]
 unfold nx
 rw [WZ,F1]
theorem Jx {ps:List (List UInt8)}: ∀{j:Nat},j<=m->wP er new ps (seg.take m) j=wP er new ps seg j
 |0,_=>rfl
 |j+1,h=>by
  have e:(seg.take m).getD j 0=seg.getD j 0:=by
   rw [We,We,FQ,if_pos (by exact (qq [.nl (.a VA KB) VB] (.nt VA VB) rfl h))]
  rw [wP_c,wP_c,Jx (j:=j) (by (first|lia|omega)),e]
theorem Xw:cut (qd l) ((q:Nat):Int) (((q:Nat):Int)+((m:Nat):Int))=qd ((l.drop q).take m):=by
 unfold cut
 rw [show (((q:Nat):Int)+((m:Nat):Int)).toNat - ((q:Nat):Int).toNat=m by exact (LA [_,_,_,_,_] [] [.ne (.a VA VB) VC,.ze (.c VB) (.c VD),.ze (.c VC) (.a (.c VD) (.c VE))] (.ne VA VE) [1,-1,1,-1] [1,1,-1,1] rfl (yn (zN [.ze (.c VA) (.c VB),.ze (.c VC) (.a (.c VB) (.c VD))] (.nl VA VC) [1,1,-1] rfl (yz (yt _)) (yz (qq [] (.zl UA (.a (.c VA) (.c VB))) rfl)))) (yz (yt _)) (yz (qq [] (.zl UA (.a (.c VA) (.c VB))) rfl))),yW,<- HY,<- HZ]
theorem vX {t:Nat}:(0:Int)<=128+(17*j+(t:Int)) % 128/\128+(17*j+(t:Int)) % 128<256:=by exact qa (za [.zl UA ZA] (.zl UA (.a (.k 128) ZA)) rfl (Wj _ (by decide))) (za [.zt ZA (.k 128)] (.zt (.a (.k 128) ZA) (.k 256)) rfl (yZ _ (by decide)))
theorem J1:((BN m).map λ(t:Nat)=>128+(17*j+((t:Nat):Int)) % 128)++[128+(17*j+((m:Nat):Int)) % 128]=(BN (m+1)).map λ(t:Nat)=>128+(17*j+((t:Nat):Int)) % 128:=by
 rw [HA,yE];rfl
section
variable {p:GP} {mg mb:Str->Option yr} (gk:GOk (g4 p) mg mb) {K:LK} {S:LS}
include gk
theorem wY (ok:FOk (g4 p) f) (hh:f.hd=none) (hC:LC f K) (hm:Z.m=some (.int (many:Nat))) (hj:Z.j=some (.int jj)) (g:many<=30)
  (t:qp ((ra,.list (qd RM))::K.G S Z) H R)
  (h: ∀new:List UInt8,new.length=many->∀H' R',qp ((ra,.list (qd RM))::K.G S {Z with nw:=some (.bytes new)}) H' R'->wSs (g4 p) f (k+3) (jS.drop 11) Q EE ⟨loc,H'⟩):
  wSs (g4 p) f (k+3) (jS.drop 10) Q EE ⟨loc,H⟩:=by
 have up: ∀q∈(ra,O.list (qd RM))::K.G S Z,q∈H:=λq hq=>t.perm.mem_iff.mpr (yA _ hq)
 have a3:(K.cm,O.cell (some (.int (many:Nat))))∈K.G S Z:=by rw [<- hm];exact pm 6 rfl
 have a4:(K.cj,O.cell (some (.int jj)))∈K.G S Z:=by rw [<- hj];exact pm 9 rfl
 refine qe K.cm _ hC.m (up _ (.tail _ a3)) ?_
 refine qb.wk t ?_
 refine I6 λr=>?_
 refine jL.range gk ok hh (r:=r) (.head _) (qa (by decide) (by decide)) (qa (qD [] (.zl (.n UV) (.c VA)) rfl) (lz2 g rfl)) rfl (by simp [xg,hC.j]) (λj ys H'=>ys=((BN j).map λ(t:Nat)=>128+(17*jj+((t:Nat):Int)) % 128).map V.int/\j<=many/\H'=(r,O.rng 0 ((many:Nat):Int) 1)::(ra,.list (qd RM))::K.G S Z) (λq m C j ys H' a5 a2 hi=>?_) (λj ys H' hi=>?_) (qy rfl (WI _) rfl) λys H' Dm hi=>?_
 ·(refine qZ hi λa1 u a0=>?_;clear hi;subst a1;subst a0)
  refine qe K.cj _ ((show _=some ((f.cells.lookup 273).getD 0) from rfl).trans (by rw [hC.j];rfl)) (.tail _ (.tail _ a4)) ?_
  refine IP (.inl (qa (by decide) (by decide))) ?_
  refine Iz ?_
  refine Iv (by decide) ?_
  refine Iz ?_
  refine zQ (qx _ rfl) ?_ (qq [.zt (.c VA) (.s (.c VB) UA)] (.nl (.a VA KB) VB) rfl a2) rfl
  rw [Qx,B1,J1]
 ·(refine qZ hi λX u oo=>?_;clear hi;subst X)
  rw [yq,yq,BC];exact (ls1 g u rfl)
 ·(refine qZ hi λJ u I=>?_;clear hi;subst J;subst I)
  rw [show ((many:Int) - 0).toNat=many by exact (zH [.nl VA VB,.ze (.c VA) (.s (.c VB) UA)] (.ne VA VB) [1,0,-1] [1,1,0] rfl u (yz (qD [] (.zl UA (.s (.c VA) UA)) rfl)))] at*
  refine qb.bytes hh (.head _) (λx hx=>?_) (by rw [yq,BC];exact (ll0 g rfl)) ?_
  ·(refine qf (yD.mp hx) λt oo F=>?_;subst F)
   exact vX
  refine zX K.cn _ _ hC.nw (uq2 (uq1 gun)) ?_
  exact h (jz ((BN many).map λ(t:Nat)=>128+(17*jj+((t:Nat):Int)) % 128)) (by unfold jz;rw [yq,yq,BC]) _ _ ((tk2 (.under (.under (.refl _)))))
theorem Jp (hk:k<480) (ok:FOk (g4 p) f) (hh:f.hd=none) (hC:LC f K) (hE:qN p mg f) (kk:KOk K) (hI:zJ K S (f.env.qual++"<lambda>")) (hs:S.shut=sh) {st:V}
  (A:qs (g4 p) (k+9) none (.ref 261) [.ref K.D.a,.bytes new,st,.bool ex,.bool er] [] [K.D.ha (S.ff:Nat) S.tb sh,K.D.ho S.d S.x,K.D.hc,DK.ht S.tb S.T] (λoo oo=>False) (λx H'=>x.cls= .ref 41/\H'=[K.D.ha (S.ff:Nat) S.tb sh,K.D.ho S.d S.x,K.D.hc,DK.ht S.tb S.T]))
  (t:qp ((ra,.list (qd RM))::K.G S ⟨some (.bool er),some w,some st,some (.ref ra),some (.bytes new),m,some (.bool ex),j,t'⟩) H R)
  (h:NxP K (f.env.qual++"<lambda>") Q):
  wSs (g4 p) f (k+3) (jS.drop 11) Q EE ⟨K.loc sh y5 y6 y13 y14 (some (.bool false)) y16 y17 y18 y19 y20 y21 y22 y23,H⟩:=by
 subst hs
 refine xZ.tk t ?_
 refine k6 gk (by exact (lk1 hk rfl)) ok hh hE hC hI.lt A (.head _) ((tk1 (tk8 (tk5 (tk3 (tk5 (tk1 (tk9 (tk9 (tk9 (tk9 .nil))))))))))) (λoo oo oo oo oo h=>h.elim) λt L' H' g h'=>?_
 subst h'
 intro b2
 refine IF (k:=0) (.tail _ (.head _)) (.head _) (qa rfl (.inr (.inl (qx _ rfl)))) (qa rfl (.inl rfl)) (by show k+3+0+1<9900;exact (lk3 hk rfl)) ?_
 refine H9 (qX ?_)
 refine H9 (qX ?_)
 exact h {S with L:=L'} ⟨some (.bool er),some w,some st,some (.ref ra),some (.bytes new),m,some (.bool ex),j,t'⟩ _ _ _ _ _ _ _ _ _ _ _ _ _ _ _ ⟨hI.wf,hI.ff,hI.pt,g,hI.eT,hI.ed⟩ (IG ((tk6 (Uo (ZK (tk8 (Uo (tk7 (tk9 (tk7 (tk6 (tk7 (tk7 (tk7 (tk7 (tk7 (tk2 (tk2 (tk2 (tk2 (tk3 (tk3 (tk3 (tk3 (tk3 (.under (.under (.under (.left _ _)))))))))))))))))))))))))))))
theorem U6 (hk:k<480) (ok:FOk (g4 p) f) (hh:f.hd=none) (hC:LC f K) (hE:qN p mg f) (kk:KOk K) (hI:zJ K S (f.env.qual++"<lambda>")) (hs:S.shut=false) {st kN pN g:Nat} (X:S.chs[kN]? =some c) (a2:c.2[pN]? =some st) (hN:jP new.length g) (hn:pN+g<=c.2.length)
  (t:qp ((ra,.list (qd RM))::K.G S ⟨some (.bool er),some w,some (.int (st:Nat)),some (.ref ra),some (.bytes new),m,some (.bool ex),j,t'⟩) H R)
  (h:NxP K (f.env.qual++"<lambda>") Q):
  wSs (g4 p) f (k+3) (jS.drop 11) Q EE ⟨K.loc false y5 y6 y13 (some (.int (g:Nat))) (some (.bool true)) y16 (some (.int (kN:Nat))) (some (.int (pN:Nat))) (some (.int 0)) y20 y21 y22 y23,H⟩:=by
 have n9:=kk.B.n9
 have J:c∈S.chs:=yC X
 have ac:(c.1,O.list (qd c.2))∈qO S.chs:=jo J
 have a6:c.2∈S.css:=yD.mpr (qj c J rfl)
 refine qc (hI.wf.lens) λl1 l2=>?_
 rw [yq] at l1
 have I:=l2 _ a6
 have a1:=hI.len kk
 have ab:=qw X
 have C:=qw a2
 have e1:S.css[kN]? =some c.2:=by rw [yO,X];rfl
 refine qA (kj hI.wf.len e1) λmk e2=>?_
 have ae:=(hI.tab kk).chain hI.wf e1 e2
 have aa:=hI.wf.mks mk (yC e2)
 have af: ∀x∈c.2,2<=x/\x<K.n:=λx hx=>by
  have:=hI.wf.rng x (WT.mpr (qj _ a6 hx));exact qa this.1 this.2.1
 have F: ∀x∈c.2.drop pN,2<=x/\x<K.n:=λx hx=>af x (Dz hx)
 have a0:(c.2.drop pN).length=c.2.length - pN:=Ws ..
 have ag:S.d.length<=10000:=by rw [hI.oct kk];have:=kk.lo;exact (qQ [.nl VA KK,.nl VB KO,.ne (.a VC KB) VA] (.nl (.a VB (.m 4 VC)) KR) [1,4,1,4] rfl n9.2 this (yn (lg0 n9.1 rfl)))
 have ap:=hN.one;have al:=hN.le;have ao:=hN.lt
 have eS:S={S with shut:=false}:=by
  clear hI X a2 ac a6 l1 l2 I a1 ab e1 e2 ae aa af F ag J t
  cases S;cases hs;rfl
 have ak:qp ((ra,.list (qd RM))::K.G {S with shut:=false} ⟨some (.bool er),some w,some (.int (st:Nat)),some (.ref ra),some (.bytes new),m,some (.bool ex),j,t'⟩) H R:=by
  rw [<- eS];exact t
 have an:=yA R ac
 refine xZ.tk ak ?_
 refine k6 gk (by exact (lk1 hk rfl)) ok hh hE hC hI.lt (A:=I5 (J5 gk (k:=k+9) (by exact (lk1 hk rfl)) kk.D (tb:=S.tb) (d:=S.d) (x:=S.x) (ff:=(S.ff:Nat)) (wM ae C) aa (ls2 n9.2 a1 rfl) (λx hx=>(F x hx).1) (by rw [WZ];exact a2) (LB [_,_,_,_,_] [] [.nl VA KK,.nl VB VA,.ne VC VD,.ne (.a VD VE) VB] (.nl VC KO) [1,1,1,1,1] rfl n9.2 I a0 (yn (yV C))) hN (LB [_,_,_,_,_] [] [.nl (.a VA VB) VC,.ne VD VE,.ne (.a VE VA) VC] (.nl VB VD) [1,1,-1,-1] rfl hn a0 (yn (yV C))) ag (hI.plc kk)) (λoo oo h=>h) (λoo oo h=>h.elim)) (E1:=λoo=>False) (.head _) ((tk1 (tk8 (tk5 (tk3 (tk5 (tk1 (tk9 (tk9 (tk9 (tk9 .nil))))))))))) (λt L' x H' am h'=>?_) λoo oo oo oo h=>h.elim
 (refine qc h' λaj ah=>?_;refine qA ah λx' ai=>?_;clear h';subst aj;subst ai)
 intro b2
 refine IF (k:=0) (.tail _ (.head _)) (.head _) (qa rfl (.inr (.inl (qx _ rfl)))) (qa rfl (.inl rfl)) (by show k+3+0+1<9900;exact (lk3 hk rfl)) ?_
 refine H9 (qX ?_)
 refine H9 (ke ?_)
 refine qm.gt (H9 (qX ?_))
 refine Ii (x:= .ref c.1) (pm 22 rfl) (yt _) (qR [.nl VA KK,.nl VB VA,.nt VC VB] (.zt (.c VC) UU) rfl n9.2 l1 ab) (by rw [yW,yO,X];rfl) ?_
 refine Iz ?_
 refine qv.cutL (xs:=qd c.2) (.tail _ (.tail _ (yx _ (.tail _ (.tail _ (.tail _ (.tail _ (.tail _ (.tail _ (.tail _ (.tail _ (.tail _ (.tail _ (.tail _ (.tail _ (.tail _ (.tail _ (by assumption)))))))))))))))))) (yt _) (qq [] (.zl UA (.a (.c VA) (.c VB))) rfl) (by rw [yq];exact (ls1 n9.2 I rfl)) λsg=>?_
 rw [Xw]
 refine qb.enumL (.head _) λe it oi a9=>?_
 generalize a4:(c.2.drop pN).take g=seg at a9 |-
 have a7:seg.length=g:=by rw [<- a4,Wx];exact (zH [.ne VA VB] (.ne VA VB) [1,-1] [1,1] rfl (Wz (LB [_,_,_,_,_] [] [.nl (.a VA VB) VC,.ne VD VE,.ne (.a VE VA) VC] (.nl VB VD) [1,1,-1,-1] rfl hn a0 (yn (yV C)))))
 have a3: ∀x∈seg,2<=x/\x<K.n:=λx hx=>by rw [<- a4] at hx;exact F x (Dy hx)
 have u: ∀x∈seg,2<=x/\x<=K.n:=λx hx=>(qa ((a3 x hx).1) (by have:=(a3 x hx).2;exact (yV this)))
 have a8:=hI.pt.len
 refine Zb gk ok hh hC (S:={S with L:=L',shut:=false,d:=wrTo K.lo (c.2.drop pN) (ww er g new) S.d g,x:=x'}) (Z:=⟨some (.bool er),some w,some (.int (st:Nat)),some (.ref ra),some (.bytes new),m,some (.bool ex),j,t'⟩) (M:=qO S.chs) (seg:=seg) (λx hx=>by show x<S.ps.length;rw [a8];have:=(a3 x hx).2;exact (qq [.nt VA VB] (.nt VA (.a VB KB)) rfl this)) (by show S.ps.length<=100;exact (qq [.nl VA KK,.ne VB (.a VA KB)] (.nl VB KO) rfl n9.2 a8)) (λjj a5 er new=>?_) rfl rfl (LB [_,_,_,_,_] [] [.nl (.a VA VB) VC,.nl VD KK,.nl VC VD,.nl VE (.m 4 VB)] (.nl VE KO) [1,4,4,4,1] rfl hn n9.2 I al) (LB [_,_,_,_,_] [] [.nl (.a VA VB) VC,.nl VD KK,.nl VC VD,.ne VE VB] (.nl VE KO) [1,1,1,1,1] rfl hn n9.2 I a7) a9 ((tk0 (tk0 (tk0 (tk6 (Uo (ZK (tk8 (Uo (tk7 (tk9 (tk7 (tk6 (tk7 (tk7 (tk7 (tk7 (tk7 (tk3 (tk2 (tk2 (tk2 (tk3 (tk3 (tk3 (tk3 (tk3 (.under (.under (.under (.left _ _))))))))))))))))))))))))))))))) λy5 y20 y21=>?_
 ·have hP:=hI.pt.wP (er:=er) (new:=new) u (yV a5)
  have hx:=u _ (BJ a5)
  rw [zd (yw a5)]
  exact Hd (hP.pc _ hx.1 hx.2)
 ·refine h {S with L:=L',shut:=false,d:=wrTo K.lo (c.2.drop pN) (ww er g new) S.d g,x:=x',ps:=wP er new S.ps seg seg.length} ⟨some (.bool er),some w,some (.int (st:Nat)),some (.ref ra),some (.bytes new),m,some (.bool ex),j,t'⟩ _ _ _ _ _ _ _ _ _ _ _ _ _ _ _ ⟨hI.wf,hI.ff,hI.pt.wP u (yM _),am,hI.eT,?_⟩ (IG ((.under (.refl _))))
  show wrTo _ _ _ _ _=(wP er new S.ps seg seg.length).flatten
  rw [a7,<- a4,Jx (yM _),hI.ed,hI.pt.wrTo (lg0 n9.1 rfl) (λx hx=>(qa ((F x hx).1) (by have:=(F x hx).2;exact (yV this)))) hN.le (LB [_,_,_,_,_] [] [.nl (.a VA VB) VC,.ne VD VE,.ne (.a VE VA) VC] (.nl VB VD) [1,1,-1,-1] rfl hn a0 (yn (yV C))) (yM _)]
end
theorem JW {α:Type} {A B:List α} {x y:α} (h:A.length=k):(A++x::B).set k y=A++y::B:=by
 subst h
 rw [List.set_append_right _ _ (yM _),Hq];rfl
theorem YT:((na,O.list (qd x))::qO (A++c::B)).Perm (qO (A++(na,x)::B)++[(c.1,O.list (qd c.2))]):=by
 refine ((kq (A:=A) (B:=B) (c:=c)).cons _).trans ?_
 have:=(kq (A:=A) (B:=B) (c:=(na,x))).append_right [(c.1,O.list (qd c.2))]
 refine List.Perm.trans ?_ this.symm
 refine ((WA (l₁:=[(na,O.list (qd x))]) (l₂:=qO (A++B))).append_right _)
section
variable {p:GP} {mg mb:Str->Option yr} (gk:GOk (g4 p) mg mb) {K:LK} {S:LS}
include gk
theorem UW (hk:k<480) (ok:FOk (g4 p) f) (hh:f.hd=none) (hC:LC f K) (hE:qN p mg f) (kk:KOk K) (hI:zJ K S (f.env.qual++"<lambda>")) (hs:S.shut=false) {st kN pN g more:Nat} (a4:S.chs[kN]? =some c) (ak:c.2[pN]? =some st) (hN:jP new.length g) (hn:g=c.2.length - pN+more) (ao:1<=more) (a5:RM=rm K.n S.T) (an:more<=RM.length) (am:g<=20)
  (t:qp ((ra,.list (qd RM))::K.G S ⟨some (.bool er),some w,some (.int (st:Nat)),some (.ref ra),some (.bytes new),m,some (.bool true),j,t'⟩) H R)
  (h:NxP K (f.env.qual++"<lambda>") Q):
  wSs (g4 p) f (k+3) (jS.drop 11) Q EE ⟨K.loc false y5 (some (.ref c.1)) y13 (some (.int (g:Nat))) (some (.bool true)) y16 (some (.int (kN:Nat))) (some (.int (pN:Nat))) (some (.int (more:Nat))) y20 y21 y22 y23,H⟩:=by
 have n9:=kk.B.n9
 have ab:c∈S.chs:=yC a4
 have b6:(c.1,O.list (qd c.2))∈qO S.chs:=jo ab
 have b5:=yA R b6
 have ag:c.2∈S.css:=yD.mpr (qj c ab rfl)
 refine qc (hI.wf.lens) λl1 l2=>?_
 have af:=hI.wf.len
 rw [yq] at l1 af
 have aq:=l2 _ ag
 have F:=hI.len kk
 have al:=hI.pt.len
 have I:=qw a4
 have a2:=qw ak
 refine Xs (jM I) λA c' B eA hA=>?_
 obtain ⟨MA,mk,MB,eM,aw⟩:=jM (show kN<S.marks.length by exact (qR [.ne VA VB,.nt VC VA] (.nt VC VB) rfl af I))
 obtain rfl:c'=c:=by
  rw [eA,<- hA,zL] at a4
  exact Wc.inj a4
 have hw:=hI.wf
 have hT:=hI.tab kk
 have ec:S.css=A.map (·.2)++c'.2::B.map (·.2):=by show S.chs.map _=_;rw [eA,yE,yH]
 have hl:(A.map (·.2)).length=MA.length:=by rw [yq];exact (xJ [.ne VA VB,.ne VC VB] (.ne VA VC) [1,-1,1] [1,1,-1] rfl hA aw)
 have e1:S.css[kN]? =some c'.2:=by rw [yO,a4];rfl
 have e2:S.marks[kN]? =some mk:=by rw [eM,<- aw,zL]
 have b7:=hT.chain hw e1 e2
 have ay:=hw.mks mk (yC e2)
 have ar: ∀x∈c'.2,2<=x/\x<K.n:=λx hx=>by
  have:=hI.wf.rng x (WT.mpr (qj _ ag hx));exact qa this.1 this.2.1
 have b3: ∀x∈c'.2,S.T[x]?≠some 0:=λx hx e=>by
  refine zk (hT.used kk.B hw (WT.mpr ⟨_,ag,hx⟩)) λv h1 h2 oo=>?_
  rw [h1] at e;exact h2 (Wc.inj e)
 have b4:c'.2.Nodup:=by have:=hw.nd;rw [ec] at this;exact (xw.mp this).1
 have b8:S.d.length<=10000:=by rw [hI.oct kk];have:=kk.lo;exact (qQ [.nl VA KK,.nl VB KO,.ne (.a VC KB) VA] (.nl (.a VB (.m 4 VC)) KR) [1,4,1,4] rfl n9.2 this (yn (lg0 n9.1 rfl)))
 have br:=hN.one;have bl:=hN.le;have bq:=hN.lt
 have a7:=jD (n:=K.n) (T:=S.T) (lg0 n9.1 rfl) hI.ff
 have a9:=hT.lastNo kk.B
 have b0:=hI.ff.1
 generalize J:c'.2.drop pN=cs
 have a0:cs.length=c'.2.length - pN:=by rw [<- J];exact Ws ..
 have aa: ∀x∈cs,x∈c'.2:=λx hx=>by rw [<- J] at hx;exact Dz hx
 have a8:cs.length+more=g:=by exact (jA [.ne VA (.a VB VC),.ne VD VB] (.ne (.a VD VC) VA) [1,1,-1] [1,-1,1] rfl hn a0)
 have eS:S={S with shut:=false}:=by
  clear hI a4 ak b6 ag l1 l2 aq F I e1 e2 b7 ay ar b8 ab t eA eM hw hT ec a7 a9 b0 b3 af al b5 a5 hl b4
  cases S;cases hs;rfl
 have bg:qp ((ra,.list (qd RM))::K.G {S with shut:=false} ⟨some (.bool er),some w,some (.int (st:Nat)),some (.ref ra),some (.bytes new),m,some (.bool true),j,t'⟩) H R:=by
  rw [<- eS];exact t
 refine xZ.tk bg ?_
 refine k6 gk (by exact (lk1 hk rfl)) ok hh hE hC hI.lt (A:=I5 (UM gk (k:=k+9) (by exact (lk1 hk rfl)) kk.D (tb:=S.tb) (d:=S.d) (x:=S.x) (ff:=S.ff) (er:=er) (more:=more) (cs:=cs) (J ▸ wM b7 a2) ay (by exact (ls2 n9.2 F rfl)) (λx hx=>(ar x (aa x hx)).1) (λx hx=>b3 x (aa x hx)) (J ▸ (List.drop_sublist ..).nodup b4) (by rw [<- J,WZ];exact ak) (a8 ▸ hN) (zN [.nl VA KM,.ne VA (.a VB VC),.ne VD VB] (.nl (.a VD VC) KO) [1,1,-1,1] rfl am hn a0) ao b8 (hI.plc kk) (qM [.nl KJ VA,.ne VB VA] (.nl KD VB) [1,1,-1] rfl n9.1 F) (by rw [F];exact b0) a9 (by rw [F,a7,<- a5];exact an)) (λoo oo h=>h) (λoo oo h=>h.elim)) (E1:=λoo=>False) (.head _) ((tk1 (tk8 (tk5 (tk3 (tk5 (tk1 (tk9 (tk9 (tk9 (tk9 .nil))))))))))) (λt L' x H' bm h'=>?_) λoo oo oo oo h=>h.elim
 (refine qc h' λbf bd=>?_;refine jk bd λi last fl X i1 i2 i3 ax C bc=>?_;refine qA bc λx' be=>?_;clear h';subst bf;subst be)
 rw [F] at i2
 have ac:fl=RM.take more:=by rw [ax,a5];exact wx (lg0 n9.1 rfl) hI.ff i1 i2 (ax ▸ C)
 rw [a8]
 intro b2
 refine IF (k:=0) (.tail _ (.head _)) (.head _) (qa rfl (.inr (.inl (qx _ rfl)))) (qa rfl (.inl rfl)) (by show k+3+0+1<9900;exact (lk3 hk rfl)) ?_
 refine H9 (qX ?_)
 refine H9 (ke ?_)
 refine qm.gt (H9 (x9 (qD [.nl KB VA] (.zt UA (.c VA)) rfl ao) ?_))
 refine qe K.cr _ hC.r (pm 14 rfl) ?_
 have av:RM.length<=100:=by rw [a5];exact yX xO (qq [.nl VA KK,.ne (.a VB KC) VA] (.nl VB KO) rfl n9.2 (yn (lg0 n9.1 rfl)))
 refine qv.takeL (xs:=qd RM) (pm 12 rfl) (yt _) (by rw [yq];exact (ll0 av rfl)) λb1=>?_
 rw [jq,<- ac]
 refine qo.cat (xs:=qd c'.2) (ys:=qd fl) (.tail _ (.tail _ (.tail _ (yx _ (.tail _ (.tail _ (.tail _ (.tail _ (.tail _ (.tail _ (.tail _ (.tail _ (.tail _ (.tail _ (.tail _ (.tail _ (.tail _ (.tail _ (by assumption))))))))))))))))))) (.head _) (by rw [yq,yq];exact (LB [_,_,_,_,_] [] [.nl VA VB,.nl VC KK,.nl VD VC,.ne VE VA,.nl VB KO] (.nl (.a VD VE) KT) [1,1,1,1,1,1] rfl an n9.2 aq C av)) λna=>?_
 rw [show qd c'.2++qd fl=qd (c'.2++fl) from (yE ..).symm]
 refine IJ (xs:=qL S.chs) (wE (uq8 uq0)) (yt _) (qR [.nl VA KK,.nl VB VA,.nt VC VB] (.zt (.c VC) UU) rfl n9.2 l1 I) (by rw [yq];exact (Bg.mpr I)) ?_
 have eR:(qL S.chs).set ((kN:Nat):Int).toNat (.ref na)=qL (A++(na,c'.2++fl)::B):=by
  rw [yW,eA]
  show (Fe _ _).set _ _=Fe _ _
  rw [yE,yE,yH,yH]
  exact JW (by rw [yq];exact hA)
 rw [eR]
 refine qe K.ctop _ hC.top (pm 22 rfl) ?_
 refine IJ (xs:=S.marks.map V.int) (wE (uq8 (uq1 uq0))) (yt _) (qR [.nl VA KK,.nl VB VA,.nt VC VB] (.zt (.c VC) UU) rfl n9.2 l1 I) (by rw [yq];exact (qR [.ne VA VB,.nt VC VA] (.zt (.c VC) (.c VB)) rfl af I)) ?_
 have eX:(S.marks.map V.int).set ((kN:Nat):Int).toNat (.int (kTp K.D.kd))=(MA++kTp K.D.kd::MB).map V.int:=by
  rw [yW,eM]
  rw [yE,yE,yH,yH]
  exact JW (by rw [yq];exact aw)
 rw [eX]
 have a3: ∀x∈fl,2<=x/\S.T[x]? =some 0:=λx hx=>by rw [ac] at hx;exact ZQ (a5 ▸ Dy hx)
 have az:fl.Nodup:=ac ▸ (List.take_sublist _ _).nodup (a5 ▸ Ql)
 have bk:fl≠[]:=λe=>by rw [e] at C;simp at C;exact (zI [.nl KB VA,.ne KA VA] .ff [0,1,-1] rfl ao C)
 have bj:=λx hx=>hT.zero kk.B hw (a3 x hx).1 (a3 x hx).2
 have a6: ∀x∈cs++fl,2<=x/\x<K.n:=λx hx=>by
  refine Or.elim (yR.mp hx) (λhx=>?_) λhx=>?_
  ·exact ar x (aa x hx)
  ·exact qa ((a3 x hx).1) ((bj x hx).1)
 have u: ∀x∈cs++fl,2<=x/\x<=K.n:=λx hx=>(qa ((a6 x hx).1) (by have:=(a6 x hx).2;exact (yV this)))
 have a1:(cs++fl).length=g:=by rw [yS];exact (LA [_,_,_,_,_] [] [.ne VA (.a VB VC),.ne VD VB,.ne VE VC] (.ne (.a VD VE) VA) [1,1,-1,-1] [1,-1,1,1] rfl hn a0 C)
 have b9:((c'.2++fl).drop pN).take g=cs++fl:=by
  rw [Fy (by exact (yV a2)),J]
  exact WP (qq [.ne VA VB] (.nl VA VB) rfl a1)
 have ah:c'.2[c'.2.length - 1]? =some last:=by
  rw [<- J,WZ] at X
  rw [J,a0,show pN+(c'.2.length - pN - 1)=c'.2.length - 1 by exact (LA [_,_,_,_,_] [] [.ne (.a VA VB) VC,.ne (.a VD KB) VA,.ne (.a VE KB) VC] (.ne (.a VB VD) VE) [1,-1,-1,1] [1,1,1,-1] rfl (yn (yV a2)) (yn (qQ [.nt VA VB,.ne (.a VC VA) VB] (.nl KB VC) [1,1,-1] rfl a2 (yn (yV a2)))) (yn (qq [.nt VA VB] (.nl KB VB) rfl a2)))] at X
  exact X
 have aj:=hw
 have au:=hT
 rw [ec,eM] at aj au
 have ae:(A++(na,c'.2++fl)::B).map (·.2)=A.map (·.2)++(c'.2++fl)::B.map (·.2):=by rw [yE,yH]
 have ai:WF K.n K.D.kd K.bads ((A++(na,c'.2++fl)::B).map (·.2)) (MA++kTp K.D.kd::MB):=by
  rw [ae];exact aj.ext kk.B au az a3
 have bb:(qJ (kTp K.D.kd) fl S.T more).set last ((fl.getD 0 0:Nat):Int)=qY (xj K.n (kTp K.D.kd) K.bads) ((A++(na,c'.2++fl)::B).map (·.2)) (MA++kTp K.D.kd::MB):=by
  rw [ae,<- vB kk.B aj hl au bk az a3 ah,C]
 have bn:FF K.n ((qJ (kTp K.D.kd) fl S.T more).set last ((fl.getD 0 0:Nat):Int)) i:=FF.alloc kk.B hw hT ai (bb ▸ jE kk.B ai) hI.ff i1 i2 λx hx=>by
  rw [ae,qV]
  refine Or.elim hx (λhx=>?_) λhx=>?_
  ·rw [ec,qV] at hx
   refine Or.elim hx (λhx=>?_) λhx=>?_
   ·exact .inl (yA _ hx)
   ·exact .inr hx
  ·rw [<- ax] at hx
   exact .inl (yx _ hx)
 have bp:wrTo K.lo (cs++fl) (ww er g new) (if er then zq K.lo fl S.d more else S.d) g=(wP er new S.ps (cs++fl) (cs++fl).length).flatten:=by
  rw [a1,hI.ed]
  cases er with
  |false=>exact hI.pt.wrTo (lg0 n9.1 rfl) u hN.le (qM [.ne VA VB] (.nl VB VA) [1,-1] rfl a1) (yM _)
  |true=>
   rw [if_pos rfl,hI.pt.zer (lg0 n9.1 rfl) (λx hx=>u x (yx _ hx)) (by exact (qM [.ne VA VB] (.nl VB VA) [1,-1] rfl C)),WP (by exact (qq [.ne VA VB] (.nl VA VB) rfl C)),(hI.pt.zP λx hx=>(a3 x hx).1).wrTo (lg0 n9.1 rfl) u hN.le (qM [.ne VA VB] (.nl VB VA) [1,-1] rfl a1) (yM _),<- a1]
   congr 1
   exact vx Jt λx hx=>uu λh=>hx (yx _ h)
 refine Ii (x:= .ref na) (pm 24 rfl) (yt _) (qR [.nl VA KK,.nl VB VA,.nt VC VB] (.zt (.c VC) UU) rfl n9.2 l1 I) (by rw [yW,yO,<- hA,zL];rfl) ?_
 refine Iz ?_
 refine qv.cutL (xs:=qd (c'.2++fl)) (pm 0 rfl) (yt _) (qq [] (.zl UA (.a (.c VA) (.c VB))) rfl) (by rw [yq,yS];exact (LB [_,_,_,_,_] [] [.nl VA VB,.nl VC KK,.nl VD VC,.ne VE VA,.nl VB KO] (.nl (.a VD VE) KT) [1,1,1,1,1,1] rfl an n9.2 aq C av)) λsg=>?_
 rw [Xw,b9]
 refine qb.enumL (.head _) λe it oi bh=>?_
 refine Zb gk ok hh hC (S:={S with L:=L',shut:=false,ff:=i,chs:=A++(na,c'.2++fl)::B,marks:=MA++kTp K.D.kd::MB,T:=(qJ (kTp K.D.kd) fl S.T more).set last ((fl.getD 0 0:Nat):Int),d:=wrTo K.lo (cs++fl) (ww er g new) (if er then zq K.lo fl S.d more else S.d) g,x:=x'}) (Z:=⟨some (.bool er),some w,some (.int (st:Nat)),some (.ref ra),some (.bytes new),m,some (.bool true),j,t'⟩) (M:=(na,.list (qd (c'.2++fl)))::qO S.chs) (seg:=cs++fl) (λx hx=>by show x<S.ps.length;rw [al];have:=(a6 x hx).2;exact (qq [.nt VA VB] (.nt VA (.a VB KB)) rfl this)) (by show S.ps.length<=100;exact (qq [.nl VA KK,.ne VB (.a VA KB)] (.nl VB KO) rfl n9.2 al)) (λjj ap er new=>?_) rfl rfl (qM [.nl VA KM,.nl VB (.m 4 VA)] (.nl VB KO) [1,4,1] rfl am bl) (ls2 am a1 rfl) bh ((tk0 (tk0 (tk0 (tk8 (.cons (rq8 (rq4 rq0)) (.cons (rq8 (rq4 (rq1 rq0))) (Uo (.cons (rq8 (rq4 rq0)) (tk9 (ZK (tk9 (tk8 (tk9 (tk9 (tk9 (tk9 (tk9 (tk5 (tk4 (tk4 (tk4 (tk5 (tk5 (tk5 (tk5 (tk5 (tk0 (.under (.under (.under (.under (.left _ _))))))))))))))))))))))))))))))))) λy5 y20 y21=>?_
 ·have hP:=hI.pt.wP (er:=er) (new:=new) u (yV ap)
  have hx:=u _ (BJ ap)
  rw [zd (yw ap)]
  exact Hd (hP.pc _ hx.1 hx.2)
 ·refine h {S with L:=L',shut:=false,ff:=i,chs:=A++(na,c'.2++fl)::B,marks:=MA++kTp K.D.kd::MB,T:=(qJ (kTp K.D.kd) fl S.T more).set last ((fl.getD 0 0:Nat):Int),d:=wrTo K.lo (cs++fl) (ww er g new) (if er then zq K.lo fl S.d more else S.d) g,x:=x',ps:=wP er new S.ps (cs++fl) (cs++fl).length} ⟨some (.bool er),some w,some (.int (st:Nat)),some (.ref ra),some (.bytes new),m,some (.bool true),j,t'⟩ _ _ _ _ _ _ _ _ _ _ _ _ _ _ _ ⟨ai,bn,hI.pt.wP u (yM _),bm,bb,bp⟩ (Jz (M:=(na,.list (qd (c'.2++fl)))::qO S.chs) (by rw [eA];exact YT) (IG ((.under (.refl _)))))
end
section
variable {p:GP} {mg mb:Str->Option yr} (gk:GOk (g4 p) mg mb) {K:LK} {S:LS}
include gk
theorem uR (hk:k<480) (ok:FOk (g4 p) f) (hh:f.hd=none) (hC:LC f K) (hE:qN p mg f) (kk:KOk K) (hI:zJ K S (f.env.qual++"<lambda>")) {st kN pN many:Nat} (a2:S.chs[kN]? =some c) (a0:c.2[pN]? =some st) (u:many<25) (a8:RM=rm K.n S.T)
  (t:qp ((ra,.list (qd RM))::K.G S ⟨some (.bool er),some w,some (.int (st:Nat)),some (.ref ra),nw,some (.int (many:Nat)),some (.bool ex),some (.int jj),t'⟩) H R)
  (h:NxP K (f.env.qual++"<lambda>") Q):
  wSs (g4 p) f (k+3) (jS.drop 7) Q EE ⟨K.loc S.shut y5 (some (.ref c.1)) y13 y14 y15 y16 (some (.int (kN:Nat))) (some (.int (pN:Nat))) y19 y20 y21 y22 y23,H⟩:=by
 have n9:=kk.B.n9
 have up: ∀q∈(ra,O.list (qd RM))::K.G S ⟨some (.bool er),some w,some (.int (st:Nat)),some (.ref ra),nw,some (.int (many:Nat)),some (.bool ex),some (.int jj),t'⟩,q∈H:=λq hq=>t.perm.mem_iff.mpr (yA _ hq)
 have a4:c∈S.chs:=yC a2
 have ai:(c.1,O.list (qd c.2))∈qO S.chs:=jo a4
 have ac:c.2∈S.css:=yD.mpr (qj c a4 rfl)
 have af:=hI.wf.lens.2 _ ac
 have I:=hI.len kk
 have a1:=qw a0
 have ah:=qw a2
 have ag:RM.length<=100:=by rw [a8];exact yX xO (qq [.nl VA KK,.ne (.a VB KC) VA] (.nl VB KO) rfl n9.2 (yn (lg0 n9.1 rfl)))
 refine qe K.cm _ hC.m (up _ (pm 7 rfl)) ?_
 refine IX ?_
 refine IQ (by decide) (.inl (by decide)) ?_
 refine IX ?_
 refine qb.max hh ?_
 obtain ⟨F,g⟩: ∃F:Nat,max 1 (-(-((many:Nat):Int) / 4))=(F:Int):=(qx ((max 1 (-(-((many:Nat):Int) / 4))).toNat) (by exact (Yi [.ze (.c VA) ZA] (.ze ZA (.c VA)) [1,1] [1,-1] rfl (yz (za [.zl UB ZA] (.zl UA ZA) rfl (Fu _ _))))))
 have hN:jP many F:=by
  generalize hq: -(-((many:Nat):Int) / 4)=q at g
  have q1:((many:Nat):Int)<=4*q/\4*q<((many:Nat):Int)+4:=by exact ⟨(LB [_] [_,_,_] [.ze (.n ZA) ZB,.ze (.a (.m 4 ZA) ZC) (.n (.c VA)),.zl UA ZC] (.zl (.c VA) (.m 4 ZB)) [1,4,1,1] rfl hq (WG _ 4) (Wj _ (by decide))),(LB [_] [_,_,_] [.ze (.n ZA) ZB,.ze (.a (.m 4 ZA) ZC) (.n (.c VA)),.zt ZC UF] (.zt (.m 4 ZB) (.a (.c VA) UF)) [1,-4,-1,1] rfl hq (WG _ 4) (yZ _ (by decide)))⟩
  refine Or.elim (Int.le_total 1 q) (λhm=>?_) λhm=>?_
  ·rw [WS hm] at g
   subst g
   exact ⟨by exact (qD [.zl UB (.c VA)] (.nl KB VA) rfl hm),by exact (qq [.zl (.c VA) (.m 4 (.c VB))] (.nl VA (.m 4 VB)) rfl q1.1),by exact (.inl (qQ [.zt (.m 4 (.c VA)) (.a (.c VB) UF),.ne (.a VC KB) VA] (.nt (.m 4 VC) VB) [1,1,4] rfl q1.2 (yn (qD [.zl UB (.c VA)] (.nl KB VA) rfl hm))))⟩
  ·rw [Fv hm] at g
   exact ⟨by exact (qD [.ze UB (.c VA)] (.nl KB VA) rfl g),by exact (wF [.ze UB (.c VA),.zl (.c VB) (.m 4 ZA),.zl ZA UB] (.nl VB (.m 4 VA)) [1,4,1,4] rfl g q1.1 hm),by exact (.inr (uc [.ze UB (.c VA)] (.ne VA KB) [1,1] [1,-1] rfl g))⟩
 rw [g]
 refine IH (xs:=qd c.2) (up _ (.tail _ (gmM (by assumption)))) (by rw [yq];exact (qq [.nl VA KK,.nl VB VA] (.nt VB KU) rfl n9.2 af)) ?_
 rw [yq]
 refine IB ?_
 refine Iz ?_
 refine qb.max hh ?_
 obtain ⟨more,C⟩: ∃more:Nat,max 0 (((F:Nat):Int) - ((c.2.length:Nat):Int)+((pN:Nat):Int))=(more:Int):=(qx ((max 0 (((F:Nat):Int) - ((c.2.length:Nat):Int)+((pN:Nat):Int))).toNat) (by exact (Yi [.ze (.c VA) ZA] (.ze ZA (.c VA)) [1,1] [1,-1] rfl (yz (za [.zl UA ZA] (.zl UA ZA) rfl (Fu _ _))))))
 rw [C]
 refine UnP.not (H9 (H9 ?_))
 have a3: ∃mk,Ch S.T mk c.2/\k9 K.D.kd mk:=by
  have e1:S.css[kN]? =some c.2:=by rw [yO,a2];rfl
  refine qA (kj hI.wf.len e1) λmk e2=>?_
  exact qj mk ((hI.tab kk).chain hI.wf e1 e2) (hI.wf.mks mk (yC e2))
 refine qf a3 λmk a3 aa=>?_
 have ae: ∀x∈c.2,2<=x:=λx hx=>(hI.wf.rng x (WT.mpr (qj _ ac hx))).1
 have ab:(c.2.drop pN).length=c.2.length - pN:=Ws ..
 cases hs:S.shut with
 |true=>
  refine qa (λoo=>?_) (λe=>yQ e)
  refine wY gk ok hh hC rfl rfl (by exact (lm0 u rfl)) t λnew hl H' R' t=>?_
  exact Jp gk hk ok hh hC hE kk hI hs (I5 (ka (H₂:=[K.D.ho S.d S.x,K.D.hc,DK.ht S.tb S.T]) (wT gk (k:=k+9) (by exact (lk1 hk rfl)) (D:=K.D) (tb:=S.tb) (ff:=(S.ff:Nat))) (.refl _)) (λoo oo zf=>zf.elim λoo zf=>zf.elim λoo h=>h) λe H' zf=>zf.elim λH1 zf=>zf.elim λe1 zf=>zf.elim λh1 h2=>(qa h1 (by rw [e1,h2];rfl))) t h
 |false=>
  refine qa (λe=>yQ e) (λoo=>?_)
  refine Ix (H9 (qa (λe=>?_) (λe=>?_)))
  ·have h0:=of_decide_eq_true e
   rw [e]
   obtain rfl:more=0:=by exact (uc [.ze (.c VA) UA] (.ne VA KA) [1,0] [1,1] rfl h0)
   refine wY gk ok hh hC rfl rfl (by exact (lm0 u rfl)) t λnew hl H' R' t=>?_
   exact U6 gk hk ok hh hC hE kk hI hs a2 a0 (by rw [hl];exact hN) (by exact (LU31 [.ze ZA UA,.zl (.a (.s (.c VA) (.c VB)) (.c VC)) ZA] (.nl (.a VC VA) VB) rfl C (Int.le_max_right _ _))) t h
  ·have h0:=of_decide_eq_false e
   have J:1<=more:=by exact (Or.elim (BS h0) (λa6=>(zI [.zt (.c VA) UA] (.nl KB VA) [0,1] rfl a6)) λa6=>(qD [.zt UA (.c VA)] (.nl KB VA) rfl a6))
   have Z:F=c.2.length - pN+more:=by
    refine Or.elim (Int.le_total 0 (((F:Nat):Int) - ((c.2.length:Nat):Int)+((pN:Nat):Int))) (λhz=>?_) λhz=>?_
    ·rw [WS hz] at C;exact (LA [_,_,_,_,_] [] [.ze (.a (.s (.c VA) (.c VB)) (.c VC)) (.c VD),.ne (.a VE VC) VB] (.ne VA (.a VE VD)) [1,-1,1] [1,1,-1] rfl C (yn (yV a1)))
    ·rw [Fv hz] at C;exact (qQ [.ze UA (.c VA),.nl KB VA] (.ne VB (.a VC VA)) [0,-1,1] rfl C J)
   have a7:(frs S.T S.ff (S.T.length - S.ff)).length=RM.length:=by rw [I,jD (by exact (lg0 n9.1 rfl)) hI.ff,a8]
   refine qe K.cl _ hC.l (up _ (pm 8 rfl)) (H9 ?_)
   cases ex with
   |false=>
    refine qa (λoo=>?_) (λe=>yQ e)
    refine wY gk ok hh hC rfl rfl (by exact (lm0 u rfl)) t λnew hl H' R' t=>?_
    exact Jp gk hk ok hh hC hE kk hI hs (QI gk (k:=k+9) (by exact (lk1 hk rfl)) kk.D (cs:=c.2.drop pN) (wM a3 a1) aa (ls2 n9.2 I rfl) (λx hx=>ae x (Dz hx)) (by rw [WZ];exact a0) (by exact (qq [.nt VA KN,.ne VB VA] (.nl VB KR) rfl u hl)) (by have:=hN.lt;exact (Or.elim (BS h0) (λa9=>(qQ [.zt (.c VA) UA] (.nt (.m 4 VB) VC) [0,1] rfl a9)) λa9=>(Or.elim this (λX=>(LB [_,_,_,_,_,_,_] [] [.ne VA VB,.nl KB VC,.ne VD (.a VB VC),.ne VE VF,.nt (.m 4 VH) VF,.ne (.a VH KB) VD] (.nt (.m 4 VA) VE) [1,4,4,-4,-1,1,-4] rfl ab J Z hl X (yn (qQ [.nl KB VA,.ne VB (.a VC VA)] (.nl KB VB) [1,1,-1] rfl J Z)))) λX=>(LB [_,_,_,_,_,_,_] [] [.nt VA VB,.nl KB VC,.ne VD (.a VE VC),.ne VD KB,.ne (.a VE VA) VB] (.nt (.m 4 VF) VH) [0,1,1,-1,1,-1] rfl a1 J Z X (yn (yV a1))))))) t h
   |true=>
    refine qa (λe=>yQ e) (λoo=>?_)
    refine qe K.cr _ hC.r (up _ (pm 5 rfl)) ?_
    refine IH (xs:=qd RM) (up _ (pm 0 rfl)) (by rw [yq];exact (ln0 ag rfl)) ?_
    rw [yq]
    refine IE ?_
    by_cases hr:more<=RM.length
    ·rw [decide_eq_true (show ((more:Nat):Int)<=((RM.length:Nat):Int) by exact (qq [.nl VA VB] (.zl (.c VA) (.c VB)) rfl hr))]
     refine wY gk ok hh hC rfl rfl (by exact (lm0 u rfl)) t λnew hl H' R' t=>?_
     exact UW gk hk ok hh hC hE kk hI hs a2 a0 (by rw [hl];exact hN) Z J a8 hr (by have:=hN.lt;exact (Or.elim (BS h0) (λX=>(qM [.zt (.c VA) UA] (.nl VB KM) [0,1] rfl X)) λX=>(Or.elim this (λa5=>(qQ [.nt VA KN,.nt (.m 4 VB) VA,.ne (.a VB KB) VC] (.nl VC KM) [4,1,1,-4] rfl u a5 (yn (qQ [.nl KB VA,.ne VB (.a VC VA)] (.nl KB VB) [1,1,-1] rfl J Z)))) λa5=>(qD [.ne VA KB] (.nl VA KM) rfl a5)))) t h
    ·rw [decide_eq_false (show ¬ ((more:Nat):Int)<=((RM.length:Nat):Int) by exact (WM.mpr (Bg.mpr (WC hr))))]
     refine wY gk ok hh hC rfl rfl (by exact (lm0 u rfl)) t λnew hl H' R' t=>?_
     exact Jp gk hk ok hh hC hE kk hI hs (Zw gk (k:=k+9) (by exact (lk1 hk rfl)) kk.D (cs:=c.2.drop pN) (more:=more) (wM a3 a1) aa (ls2 n9.2 I rfl) (λx hx=>ae x (Dz hx)) (by rw [WZ];exact a0) (by exact (qq [.nt VA KN,.ne VB VA] (.nl VB (.k 500)) rfl u hl)) (by rw [hl,ab,<- Z];exact hN) J (qM [.nl KJ VA,.ne VB VA] (.nl KD VB) [1,1,-1] rfl n9.1 I) (by rw [I];exact hI.ff.1) ((hI.tab kk).lastNo kk.B) (qR [.ne VA VB,.nt VB VC] (.nt VA VC) rfl a7 (WC hr))) t h
theorem yg (hk:k<480) (ok:FOk (g4 p) f) (hh:f.hd=none) (hC:LC f K) (hE:qN p mg f) (kk:KOk K) (hI:zJ K S (f.env.qual++"<lambda>")) (a6:S.chs≠[]) (a8:2<=dd/\dd<=4)
  (h:NxP K (f.env.qual++"<lambda>") Q):
  wSs (g4 p) f (k+3) jS Q EE ⟨K.loc S.shut y5 y6 (some (.int dd)) y14 y15 y16 y17 y18 y19 y20 y21 y22 y23,(ra,.list (qd (rm K.n S.T)))::DK.ht tt S.T::K.G S ⟨z,some (.int w),s,some (.ref ra),nw,m,l,some (.int jj),some (.ref tt)⟩⟩:=by
 have n9:=kk.B.n9
 refine qc (hI.wf.lens) λl1 l2=>?_
 rw [yq] at l1
 have u:0<S.chs.length:=WU.mpr a6
 have a7:=hI.len kk
 generalize a5:rm K.n S.T=RM
 have aa:RM.length<=100:=by rw [<- a5];exact yX xO (qq [.nl VA KK,.ne (.a VB KC) VA] (.nl VB KO) rfl n9.2 (yn (lg0 n9.1 rfl)))
 refine qe K.cw _ hC.w (pm 4 rfl) ?_
 refine Iv (by decide) ?_
 refine IH (pm 21 rfl) (by rw [yq];exact (qq [.nl VA KK,.nl VB VA] (.nt VB KU) rfl n9.2 l1)) ?_
 rw [yq]
 refine Iv (WX.mpr u) ?_
 obtain ⟨kN,a1⟩: ∃kN:Nat,w % 16 % ((S.chs.length:Nat):Int)=(kN:Int):=(qx _ ((yz (Wj _ (by exact (λz0=>(zI [.nt KA VA,.ze (.c VA) UA] .ff [0,1,1] rfl u z0))))).symm))
 have a2:kN<S.chs.length:=by
  have:=yZ (w % 16) (show (0:Int)<(S.chs.length:Nat) by exact (WX.mpr u))
  exact (wF [.ze ZA (.c VA),.zt ZA (.c VB)] (.nt VA VB) [1,-1,1] rfl a1 this)
 rw [a1]
 obtain ⟨c,J⟩: ∃c,S.chs[kN]? =some c:=(qx _ (yw a2))
 have C:c∈S.chs:=yC J
 have a9:(c.1,O.list (qd c.2))∈qO S.chs:=jo C
 have a4:c.2∈S.css:=yD.mpr (qj c C rfl)
 have a3:=l2 _ a4
 have I:0<c.2.length:=WU.mpr (hI.wf.ne _ a4)
 refine Ii (x:= .ref c.1) (pm 21 rfl) (yt _) (qR [.nl VA KK,.nl VB VA,.nt VC VB] (.zt (.c VC) UU) rfl n9.2 l1 a2) (by rw [yW,yO,J];rfl) ?_
 refine qe K.cw _ hC.w (pm 4 rfl) ?_
 refine IQ (by decide) (.inl (by decide)) ?_
 refine Iv (by decide) ?_
 refine IH (xs:=qd c.2) (.tail _ (.tail _ (gmM (by assumption)))) (by rw [yq];exact (qq [.nl VA KK,.nl VB VA] (.nt VB KU) rfl n9.2 a3)) ?_
 rw [yq]
 refine Iv (WX.mpr I) ?_
 obtain ⟨pN,Z⟩: ∃pN:Nat,w / 16 % 16 % ((c.2.length:Nat):Int)=(pN:Int):=(qx _ ((yz (Wj _ (by exact (λz0=>(zI [.nt KA VA,.ze (.c VA) UA] .ff [0,1,1] rfl I z0))))).symm))
 have a0:pN<c.2.length:=by
  have:=yZ (w / 16 % 16) (show (0:Int)<(c.2.length:Nat) by exact (WX.mpr I))
  exact (wF [.ze ZA (.c VA),.zt ZA (.c VB)] (.nt VA VB) [1,-1,1] rfl Z this)
 rw [Z]
 obtain ⟨st,X⟩: ∃st,c.2[pN]? =some st:=(qx _ (yw a0))
 refine qe K.cw _ hC.w (pm 4 rfl) ?_
 refine IQ (by decide) (.inl (by decide)) ?_
 refine Iv (by decide) ?_
 have g:0<=w / 256 % 25/\w / 256 % 25<25:=by exact qa (za [.zl UA ZA] (.zl UA ZA) rfl (Wj _ (by decide))) (za [.zt ZA UN] (.zt ZA UN) rfl (yZ _ (by decide)))
 generalize w / 256 % 25=manyI at g |-
 obtain ⟨many,rfl⟩: ∃many:Nat,manyI=(many:Int):=(qx manyI.toNat (Yi [.ze (.c VA) ZA] (.ze ZA (.c VA)) [1,1] [1,-1] rfl (yz g.1)))
 refine zX K.cm _ _ hC.m (uq2 gum) ?_
 refine Ii (xs:=qd c.2) (x:= .int (st:Nat)) (.tail _ (.tail _ (gmM (by assumption)))) (yt _) (qR [.nl VA KK,.nl VB VA,.nt VC VB] (.zt (.c VC) UU) rfl n9.2 a3 a0) (by rw [yW,yO,X];rfl) ?_
 refine zX K.cs _ _ hC.s (uq2 gus) ?_
 refine qm.ne ?_
 generalize (!decide (dd=3))=ex
 refine zX K.cl _ _ hC.l (uq2 gul) ?_
 have F:=λer=>uR gk hk ok hh hC hE kk hI (EE:=EE) (jj:=jj) (st:=st) (kN:=kN) (pN:=pN) (many:=many) (c:=c) (ex:=ex) (er:=er) (nw:=nw) (t':=some (.ref tt)) (w:= .int w) J X (qD [.zt (.c VA) UN] (.nt VA KN) rfl g.2) (ra:=ra) a5.symm (y5:=y5) (y13:=some (.int dd)) (y14:=y14) (y15:=y15) (y16:=y16) (y19:=y19) (y20:=y20) (y21:=y21) (y22:=y22) (y23:=y23) (H:=(ra,.list (qd RM))::DK.ht tt S.T::K.G S ⟨some (.bool er),some (.int w),some (.int (st:Nat)),some (.ref ra),nw,some (.int (many:Nat)),some (.bool ex),some (.int jj),some (.ref tt)⟩) (R:=[DK.ht tt S.T]) (.cons .head ((.under (.refl _)))) h
 refine Ix (H9 (qa (λe=>?_) (λe=>?_)))
 ·rw [e]
  refine zX K.cz _ _ hC.z (uq2 guz) ?_
  exact F true
 ·refine Ix (H9 (qa (λe=>?_) (λe=>?_)))
  ·rw [e]
   refine zX K.cz _ _ hC.z (uq2 guz) ?_
   exact F false
  ·refine qe K.cw _ hC.w (pm 4 rfl) ?_
   refine IQ (by decide) (.inl (by decide)) ?_
   refine Iv (by decide) ?_
   refine Ix ?_
   refine zX K.cz _ _ hC.z (uq2 guz) ?_
   exact F _
end
theorem zG.wk (t:qp H₂ H H₁) (h:zG g f n op x y Q E ⟨loc,H₂++H₁⟩):zG g f n op x y Q E ⟨loc,H⟩:=Op.mk λv w hv hw A s hA hs=>h.h v w hv hw A s hA (Rep.perm hs t.perm)
theorem qm.wk (t:qp H₂ H H₁) (h:qm g f n op x y Q E ⟨loc,H₂⟩):qm g f n op x y Q E ⟨loc,H⟩:=Op.mk λv w hv hw A s hA hs=>h.h v w hv hw A s hA (hs.take t)
section
variable {p:GP} {mg mb:Str->Option yr} (gk:GOk (g4 p) mg mb) {K:LK} {S:LS}
include gk
theorem Ue (hk:k<480) (ok:FOk (g4 p) f) (hh:f.hd=none) (hC:LC f K) (hE:qN p mg f) (kk:KOk K) (hI:zJ K S (f.env.qual++"<lambda>")) (J:0<=dd) (I:1<=dd->dd<=4->S.chs≠[])
  (t:qp (DK.ht tt S.T::K.G S ⟨z,some (.int w),s,r,nw,m,l,some (.int jj),some (.ref tt)⟩) H R)
  (h: ∀(S':LS) (Z':LZ) y5 y6 y13 y14 y15 y16 y17 y18 y19 y20 y21 y22 y23 tt H' R',zJ K S' (f.env.qual++"<lambda>")->qp (DK.ht tt S'.T::K.G S' {Z' with t:=some (.ref tt)}) H' R'->Q .next ⟨K.loc S'.shut y5 y6 y13 y14 y15 y16 y17 y18 y19 y20 y21 y22 y23,H'⟩):
  wSs (g4 p) f (k+3) (jf.drop 3) Q EE ⟨K.loc S.shut y5 y6 (some (.int dd)) y14 y15 y16 y17 y18 y19 y20 y21 y22 y23,H⟩:=by
 have n9:=kk.B.n9
 have F:=hI.len kk
 refine qb.wk t ?_
 refine IV λrr=>?_
 have u: ∀i:Nat,i<K.n->S.T[i]? =some (S.T.getD i 1):=λi hi=>wl (by rw [F];exact hi)
 refine ju.range gk ok hh (r:=rr) (.head _) (qa (by decide) (by decide)) (qa (qD [] (.zl (.n UV) (.c VA)) rfl) (lz2 n9.2 rfl)) rfl (by simp [xg,hC.t]) (λj ys H'=>ys=qd (frs S.T 2 j)/\j<=K.n/\H'=(rr,O.rng 2 ((K.n:Nat):Int) 1)::DK.ht tt S.T::K.G S ⟨z,some (.int w),s,r,nw,m,l,some (.int jj),some (.ref tt)⟩) (λq m C j ys H' a2 hj hi=>?_) (λj ys H' hi=>?_) (qy rfl (WI _) rfl) λys H' Dm hi=>?_
 ·(refine qZ hi λz0 g z1=>?_;clear hi;subst z0;subst z1)
  refine qe K.ct _ ((show _=some ((f.cells.lookup 257).getD 0) from rfl).trans (by rw [hC.t];rfl)) (pm 12 rfl) ?_
  refine Ii (x:= .int (S.T.getD (2+j) 1)) (pm 1 rfl) (qD [] (.zl UA (.a UC (.c VA))) rfl) (qq [.nl VA KK,.zt (.c VB) (.s (.c VA) UC)] (.zt (.a UC (.c VB)) UU) rfl n9.2 hj) (by rw [show ((2:Int)+(j:Int)).toNat=2+j by exact (zH [.ze (.c VA) (.a UC (.c VB))] (.ne VA (.a KC VB)) [1,-1] [1,1] rfl (yz (qD [] (.zl UA (.a UC (.c VA))) rfl))),yO,u (2+j) (by exact (qq [.zt (.c VA) (.s (.c VB) UC)] (.nt (.a KC VA) VB) rfl hj))];rfl) ?_
  refine Ix (H9 (qa (λe=>?_) (λe=>?_)))
  ·have ef:=jd (u (2+j) (by exact (qq [.zt (.c VA) (.s (.c VB) UC)] (.nt (.a KC VA) VB) rfl hj))) (by exact (qD [] (.nl KC (.a KC VA)) rfl))
   rw [e] at ef
   refine zQ (qx _ rfl) ?_ (qq [.zt (.c VA) (.s (.c VB) UC)] (.nl (.a VA KB) VB) rfl hj) rfl
   rw [xh,ef,if_pos rfl,show (2:Int)+(j:Int)=((2+j:Nat):Int) by exact (qD [] (.ze (.a UC (.c VA)) (.c (.a KC VA))) rfl)]
   exact xk
  ·have ef:=jd (u (2+j) (by exact (qq [.zt (.c VA) (.s (.c VB) UC)] (.nt (.a KC VA) VB) rfl hj))) (by exact (qD [] (.nl KC (.a KC VA)) rfl))
   rw [e] at ef
   refine zQ (qx _ rfl) ?_ (qq [.zt (.c VA) (.s (.c VB) UC)] (.nl (.a VA KB) VB) rfl hj) rfl
   rw [xh,ef,if_neg (by decide),Wq]
 ·(refine qZ hi λz2 g oo=>?_;clear hi;subst z2)
  rw [yq];exact yX xO (ls1 n9.2 g rfl)
 ·(refine qZ hi λz3 g z4=>?_;clear hi;subst z3;subst z4)
  rw [show ((K.n:Int) - 2).toNat=K.n - 2 by exact (xJ [.ze (.c VA) (.s (.c VB) UC),.ne (.a VC KC) VB] (.ne VA VC) [1,-1,1] [1,1,-1] rfl (yz (qD [.nl KJ VA] (.zl UA (.s (.c VA) UC)) rfl n9.1)) (yn (lg0 n9.1 rfl)))]
  refine zX K.cr _ _ hC.r (uq2 (uq1 gur)) ?_
  have fin: ∀(S':LS) (Z':LZ) (y5 y6 y13 y14 y15 y16 y17 y18 y19 y20 y21 y22 y23:Option V) (H' R':List (yu × O)),zJ K S' (f.env.qual++"<lambda>")->H'.Perm (K.G S' Z'++R')->wSs (g4 p) f (k+3) (jf.drop 5) Q EE ⟨K.loc S'.shut y5 y6 y13 y14 y15 y16 y17 y18 y19 y20 y21 y22 y23,H'⟩:=λS' Z' y5 y6 y13 y14 y15 y16 y17 y18 y19 y20 y21 y22 y23 H' R' X t'=>
   ve gk (by exact (lk0 hk rfl)) ok hh hC kk X t' λtt a1 a0 Z=>h S' Z' _ _ _ _ _ _ _ _ _ _ _ _ _ tt a1 a0 X Z
  refine qm.wk (H₂:=(Dm,.list (qd (rm K.n S.T)))::DK.ht tt S.T::K.G S ⟨z,some (.int w),s,some (.ref Dm),nw,m,l,some (.int jj),some (.ref tt)⟩) ((tk0 (tk1 (.under (.refl _))))) ?_
  refine Ix (H9 (jV (λh0=>?_) λh0=>?_))
  ·exact yj gk hk ok hh hC hE kk hI fin
  refine Ix (H9 (jV (λh1=>?_) λh1=>?_))
  ·exact yf gk hk ok hh hC hE kk hI (I (kL [.ze ZA UB] (.zl UB ZA) [1,-1] rfl h1) (za [.ze ZA UB] (.zl ZA UF) rfl h1)) fin
  refine IE (H9 (jV (λh2=>?_) λh2=>?_))
  ·exact yg gk hk ok hh hC hE kk hI (I (Or.elim (BS h0) (λw7=>(kL [.zl UA ZA,.zt ZA UA] (.zl UB ZA) [0,1,1] rfl J w7)) λw7=>(za [.zt UA ZA] (.zl UB ZA) rfl w7)) (by exact h2)) (qa (by exact (Or.elim (BS h0) (λw7=>(kL [.zl UA ZA,.zt ZA UA] (.zl UC ZA) [0,1,1] rfl J w7)) λw7=>(Or.elim (BS h1) (λw8=>(kL [.zt UA ZA,.zt ZA UB] (.zl UC ZA) [0,1,1] rfl w7 w8)) λw8=>(za [.zt UB ZA] (.zl UC ZA) rfl w8)))) h2) fin
  refine Ix (H9 (jV (λh5=>?_) λh5=>?_))
  ·exact ye gk hk ok hh hC hE kk hI fin
  refine Ix (H9 (jV (λh6=>?_) λh6=>?_))
  ·exact yc gk (by exact (lk0 hk rfl)) ok hh hC kk hI fin
  ·exact yk gk hk ok hh hC kk hI fin
theorem Yy (hk:k<480) (ok:FOk (g4 p) f) (hh:f.hd=none) (hC:LC f K) (hE:qN p mg f) (kk:KOk K) (hI:zJ K S (f.env.qual++"<lambda>"))
  (t:qp (DK.ht tt S.T::K.G S ⟨z,some (.int w),s,r,nw,m,l,some (.int jj),some (.ref tt)⟩) H R)
  (h: ∀(S':LS) (Z':LZ) y5 y6 y13 y14 y15 y16 y17 y18 y19 y20 y21 y22 y23 tt H' R',zJ K S' (f.env.qual++"<lambda>")->qp (DK.ht tt S'.T::K.G S' {Z' with t:=some (.ref tt)}) H' R'->Q .next ⟨K.loc S'.shut y5 y6 y13 y14 y15 y16 y17 y18 y19 y20 y21 y22 y23,H'⟩):
  wSs (g4 p) f (k+3) jf Q EE ⟨K.loc S.shut y5 y6 y13 y14 y15 y16 y17 y18 y19 y20 y21 y22 y23,H⟩:=by
 have n9:=kk.B.n9
 have up: ∀q∈DK.ht tt S.T::K.G S ⟨z,some (.int w),s,r,nw,m,l,some (.int jj),some (.ref tt)⟩,q∈H:=λq hq=>t.perm.mem_iff.mpr (yA _ hq)
 have l1:=hI.wf.lens.1
 rw [yq] at l1
 refine qe K.cw _ hC.w (up _ (pm 3 rfl)) ?_
 refine Iv (by decide) ?_
 have g:0<=w % 8:=by exact (za [.zl UA ZA] (.zl UA ZA) rfl (Wj _ (by decide)))
 generalize w % 8=dd at g
 refine qe K.cw _ hC.w (up _ (pm 3 rfl)) ?_
 refine zG.wk t ?_
 refine Ma (by decide) (.inl (by decide)) ?_
 refine qU _ _ (uq1 guw) ?_
 have ht:qp (DK.ht tt S.T::K.G S ⟨z,some (.int (w / 8)),s,r,nw,m,l,some (.int jj),some (.ref tt)⟩) (DK.ht tt S.T::K.G S ⟨z,some (.int (w / 8)),s,r,nw,m,l,some (.int jj),some (.ref tt)⟩++R) R:=qp.left _ _
 have cont:=λdd g u=>Ue gk hk ok hh hC hE kk hI (dd:=dd) g u (y5:=y5) (y6:=y6) (y14:=y14) (y15:=y15) (y16:=y16) (y17:=y17) (y18:=y18) (y19:=y19) (y20:=y20) (y21:=y21) (y22:=y22) (y23:=y23) (EE:=EE) ht h
 refine qt.list (pm 20 rfl) (by rw [yq];exact (ls1 n9.2 l1 rfl)) ?_
 by_cases u:S.chs=[]
 ·rw [show (qL S.chs).isEmpty=true by rw [u];rfl]
  refine qa (λe=>yQ e) (λoo=>?_)
  refine IE (H9 (jV (λh1=>?_) λh1=>?_))
  ·refine IE (H9 (qa (λe=>qX ?_) (λe=>ke ?_)))
   ·exact cont dd g (λoo h=>absurd h (of_decide_eq_false e))
   ·exact cont 0 (LB [] [] [] (.zl UA UA) [1] rfl) (λh=>absurd h (WM.mpr (LB [] [] [] (.zt UA UB) [1] rfl)))
  ·exact qa (λoo=>qX (cont dd g (λh=>absurd h h1))) (λe=>yQ e)
 ·rw [show (qL S.chs).isEmpty=false by cases e:S.chs with|nil=>exact absurd e u|cons a r=>rfl]
  refine qa (λoo=>qX ?_) (λe=>yQ e)
  exact cont dd g λoo oo=>u
end
section
variable {p:GP} {mg mb:Str->Option yr} (gk:GOk (g4 p) mg mb) {K:LK} {S:LS}
include gk
theorem vc (hk:k<480) (ok:FOk (g4 p) f) (hh:f.hd=none) (hC:LC f K) (hE:qN p mg f) (kk:KOk K) (hI:zJ K S (f.env.qual++"<lambda>")) {Z:LZ} {ns:List Int} (hx:K.lx=ns.map V.int) (a5:vS K.la 0 oi)
  (t:qp ((e,.raw (Zz it 0 .none))::(it,.raw oi)::DK.ht tt S.T::K.G S {Z with t:=some (.ref tt)}) H R)
  (h: ∀(S':LS) (Z':LZ) y5 y6 y13 y14 y15 y16 y17 y18 y19 y20 y21 y22 y23 tt,zJ K S' (f.env.qual++"<lambda>")->Q .next ⟨K.loc S'.shut y5 y6 y13 y14 y15 y16 y17 y18 y19 y20 y21 y22 y23,DK.ht tt S'.T::K.G S' {Z' with t:=some (.ref tt)}⟩):
  zC (g4 p) f (k+3) (.tupc [(273,q1),(266,q2)] 0 q3) (.ref e) jf [] Q EE ⟨K.loc S.shut y5 y6 y13 y14 y15 y16 y17 y18 y19 y20 y21 y22 y23,H⟩:=by
 refine zC.wk t ?_
 refine zC.enumC gk ok hh (λk oi h q=>by rw [h.1] at q;injection q with q;exact absurd q (by decide)) (ki (l:=K.la) (xs:=K.lx)) a5
  (λj σ=>∃(S:LS) (Z:LZ) (y5 y6 y13 y14 y15 y16 y17 y18 y19 y20 y21 y22 y23:Option V) (tt:yu),zJ K S (f.env.qual++"<lambda>")/\σ=⟨K.loc S.shut y5 y6 y13 y14 y15 y16 y17 y18 y19 y20 y21 y22 y23,DK.ht tt S.T::K.G S {Z with t:=some (.ref tt)}⟩) (λj σ hi=>?_) (qW S Z _ (qW _ _ _ (qW _ _ _ (qW _ _ _ (XP _ _ _ tt hI rfl))))) (λq j T y σ a4 hj hi=>?_) (λσ hi=>?_)
 ·(refine zc hi λS Z oo z6=>?_;refine zc z6 λoo oo oo z7=>?_;refine zc z7 λoo oo oo z8=>?_;refine zc z8 λoo oo oo z9=>?_;refine wh z9 λoo oo oo tt oo z5=>?_;clear hi;subst z5)
  exact pm 23 rfl
 ·(refine zc hi λS Z y5 a2=>?_;refine zc a2 λy6 y13 y14 a1=>?_;refine zc a1 λy15 y16 y17 a0=>?_;refine zc a0 λy18 y19 y20 X=>?_;refine wh X λy21 y22 y23 tt hI a3=>?_;clear hi;subst a3)
  rw [hx,yO] at hj
  (refine qf (WB.mp hj) λw hw J=>?_;subst J)
  refine wD.tup (show (f.at q).hd=none from hh) (.head _) rfl ?_
  refine zX K.cj _ _ hC.at.j (uq2 guj) ?_
  refine zX K.cw _ _ hC.at.w (uq2 guw) ?_
  refine Yy gk hk a4 hh hC.at hE.at kk hI (z:=Z.z) (s:=Z.s) (r:=Z.r) (nw:=Z.nw) (m:=Z.m) (l:=Z.l) (w:=w) (jj:=(j:Int)) (tt:=tt) (R:=[(T,.tup [.int (j:Int),.int w])]) ((tk1 (.under (.refl _)))) λS' Z' y5 y6 y13 y14 y15 y16 y17 y18 y19 y20 y21 y22 y23 tt H' R' a6 t'=>?_
  dsimp only [turn]
  exact qe _ _ t'.perm (wJ _ _) (qW S' Z' _ (qW _ _ _ (qW _ _ _ (qW _ _ _ (XP _ _ _ tt a6 rfl)))))
 ·(refine zc hi λS Z y5 F=>?_;refine zc F λy6 y13 y14 C=>?_;refine zc C λy15 y16 y17 u=>?_;refine zc u λy18 y19 y20 g=>?_;refine wh g λy21 y22 y23 tt hI I=>?_;clear hi;subst I)
  exact h S Z _ _ _ _ _ _ _ _ _ _ _ _ _ tt hI
end
theorem zr.wk (t:qp H₂ H H₁) (h:zr g f n x i y Q E ⟨loc,H₂⟩):zr g f n x i y Q E ⟨loc,H⟩:=Op.mk λa b ha hb A s hA hs=>h.h a b ha hb A s hA (hs.take t)
theorem JU {α:Type} {l:List α} {x:α} (h:l[j]? =some x):l.drop j=x::l.drop (j+1):=by
 obtain ⟨hj,e⟩:=Wb.mp h
 rw [List.drop_eq_getElem_cons hj,e]
theorem k8:qY t [] ms=t:=by cases ms<;>rfl
section
variable {p:GP} {mg mb:Str->Option yr} (gk:GOk (g4 p) mg mb) {K:LK} {S:LS} {q:Str}
include gk
theorem YD (hk:k<480) (ok:FOk (g4 p) f) (hh:f.hd=none) (hC:LC f K) (kk:KOk K) (hI:zJ K S q) (t:qp (K.G S Z) H R)
  (h: ∀y6 ff tb,FF K.n (xj K.n (kTp K.D.kd) K.bads) ff->wSs (g4 p) f (k+3) (b_law.drop 37) Q EE ⟨K.loc sh y5 y6 y13 y14 y15 y16 y17 y18 y19 y20 y21 y22 y23,K.G {S with shut:=false,ff:=ff,tb:=tb,T:=xj K.n (kTp K.D.kd) K.bads} Z⟩):
  wSs (g4 p) f (k+3) (b_law.drop 35) Q EE ⟨K.loc sh y5 y6 y13 y14 y15 y16 y17 y18 y19 y20 y21 y22 y23,H⟩:=by
 have n9:=kk.B.n9
 refine qc (hI.wf.lens) λl1 l2=>?_
 rw [yq] at l1
 have up: ∀q∈K.G S Z,q∈H:=λq hq=>t.perm.mem_iff.mpr (yA _ hq)
 refine qe K.cd _ hC.d (up _ (pm 8 rfl)) ?_
 refine zr.wk t ?_
 refine I7 qg gk ok (uq8 (uq4 (uq2 uq0))) (by rfl) (by rfl) ?_
 refine zC.list gk ok hh (xs:=qL S.chs) (λj σ=>∃y6 ff tb,WF K.n K.D.kd K.bads (S.css.drop j) (S.marks.drop j)/\FF K.n (qY (xj K.n (kTp K.D.kd) K.bads) (S.css.drop j) (S.marks.drop j)) ff/\σ=⟨K.loc sh y5 y6 y13 y14 y15 y16 y17 y18 y19 y20 y21 y22 y23,K.G {S with shut:=false,ff:=ff,tb:=tb,T:=qY (xj K.n (kTp K.D.kd) K.bads) (S.css.drop j) (S.marks.drop j)} Z⟩) (λj σ hi=>?_) (zX y6 S.ff S.tb hI.wf (hI.eT ▸ hI.ff) (by rw [List.drop_zero,List.drop_zero,<- hI.eT];rfl)) (λr j x σ F hj hi=>?_) (λσ hi=>?_)
 ·(refine kT hi λoo oo oo oo oo a6=>?_;clear hi;subst a6)
  exact pm 19 rfl
 ·(refine kT hi λy6 ff tb hw hf a5=>?_;clear hi;subst a5)
  rw [yO] at hj
  (refine qf (WB.mp hj) λc X a4=>?_;subst a4)
  have aa:(c.1,O.list (qd c.2))∈qO S.chs:=jo (yC X)
  have e1:S.css[j]? =some c.2:=by rw [yO,X];rfl
  refine qA (kj hI.wf.len e1) λmk e2=>?_
  rw [JU e1,JU e2] at hw hf |-
  have hT:=jE kk.B hw
  generalize ac:qY (xj K.n (kTp K.D.kd) K.bads) (c.2::S.css.drop (j+1)) (mk::S.marks.drop (j+1))=T at hT hf |-
  have a8:=hT.chain hw (k:=0) rfl rfl
  have a7:=hw.mks mk (.head _)
  have a9: ∀x∈c.2,2<=x:=λx hx=>(hw.rng x (WT.mpr (qj _ (.head _) hx))).1
  have ab:=l2 _ (yC e1)
  have I:=hT.len
  obtain ⟨st,J⟩: ∃st,c.2[0]? =some st:=⟨_,yw (WU.mpr (hw.ne _ (.head _)))⟩
  have g:=Xv (A:=[]) (MA:=[]) kk.B hw rfl hT
  refine qe K.cd _ hC.at.d (pm 8 rfl) ?_
  refine IZ qg gk F (C:=380) (show K.D.ha (ff:Nat) tb false∈_ by exact pm 14 rfl) (fa:=253) (by rfl) (by rfl) ?_
  refine Ii (xs:=qd c.2) (x:= .int (st:Nat)) (gmM (by assumption)) (by decide) (by decide) (by show (qd c.2)[0]? =_;rw [yO,J];rfl) ?_
  refine IK gk F GF.f_PyFat_free_cluster_chain (qs.hd0 (show (f.at r).hd=none from hh) (JI gk (k:=k+3) (by exact (lk1 hk rfl)) kk.D.kd (D:=K.D) (tb:=tb) (tbl:=T) (ff:=(ff:Nat)) a8 a7 (by exact (ls2 n9.2 I rfl)) a9 J)) ((.cons (rq8 (rq4 (rq2 rq0))) (.cons (wb rq0) .nil))) (λy H' h'=>?_) λoo oo h=>h.elim
  (refine qc h' λa3 a1=>?_;refine qA a1 λu a2=>?_;clear h';subst a3;subst a2)
  rw [Xo,g]
  dsimp only [nxt,wSs,turn]
  refine IY (H₂:=K.G {S with shut:=false,ff:=lowsN ff c.2,tb:=u,T:=qY (xj K.n (kTp K.D.kd) K.bads) (S.css.drop (j+1)) (S.marks.drop (j+1))} Z) ((tk2 (tk2 (tk2 (tk2 (tk2 (tk2 (tk2 (tk2 (tk2 (tk2 (tk2 (tk2 (tk2 (tk2 (tk0 (tk1 (tk1 (.refl _))))))))))))))))))) (zX _ (lowsN ff c.2) u (hw.free (A:=[]) (MA:=[]) rfl) (g ▸ FF.free hf) rfl)
 ·(refine kT hi λy6 ff tb hw hf a0=>?_;clear hi;subst a0)
  have e:S.css.drop (qL S.chs).length=[]:=D7 (by rw [yq,yq];exact yM _)
  rw [e,k8] at hf |-
  exact h y6 ff tb hf
end
section
variable {n:Nat} {kd:Int} {bads:List Nat} {T:List Int}
theorem WF.none (n:Nat) (kd:Int) (bads:List Nat):WF n kd bads [] []:=⟨rfl,λoo h=>(yI h).elim,λoo h=>(yI h).elim,WW,λoo h=>(yI h).elim⟩
set_option tactic.hygienic true in
theorem vP (h:zh n (kTp kd) bads [] [] T) (h2:2<=c) (hn:c<n):jU T c= !(bads.map λc=>((c:Nat):Int)).any (· ==((c:Nat):Int)):=by
 by_cases hb:c∈bads
 ·have e:=h.bad c hb
  have:(bads.map λc=>((c:Nat):Int)).any (· ==((c:Nat):Int))=true:=List.any_eq_true.mpr (qj _ (yD.mpr (qj c hb rfl)) (by simp))
  have:=ky (kd:=kd)
  rw [jd e h2,decide_eq_false (by exact (λz0=>(kL [.zl UQ ZA,.ze (.s ZA UI) UA] .ff [0,1,1] rfl this z0))),‹List.any _ _=true›];rfl
 ·have e:=h.fr c h2 hn hb (yI)
  have:(bads.map λc=>((c:Nat):Int)).any (· ==((c:Nat):Int))=false:=by
   rw [F4]
   intro x hx
   (refine qf (yD.mp hx) λd hd g=>?_;subst g)
   simp only [beq_iff_eq]
   intro e
   have:d=c:=by exact (zH [.ze (.c VA) (.c VB)] (.ne VA VB) [1,-1] [1,1] rfl e)
   exact hb (this ▸ hd)
  rw [jd e h2,decide_eq_true rfl,this];rfl
theorem vF (B:zS n bads) (h:zh n (kTp kd) bads [] [] T):rm n T≠[]:=by
 obtain ⟨a,b,e⟩: ∃a b,bads=[a,b]:=by
  have:=B.len
  match bads,this with
  |[a,b],_=>exact jH a b rfl
 have n9:=B.n9
 obtain ⟨c,h1,h2,h3⟩: ∃c,2<=c/\c<5/\c ∉ bads:=by
  rw [e]
  by_cases h2:2=a\/2=b
  ·by_cases h3:3=a\/3=b
   ·exact qK 4 (LB [] [] [] (.nl KC KF) [1] rfl) (LB [] [] [] (.nt KF KG) [1] rfl) (by simp;exact (Or.elim h2 (λw2=>(Or.elim h3 (λw3=>(qa (λz0=>(zI [.ne KC VA,.ne KD VA] .ff [0,-1,1] rfl w2 w3)) (λz0=>(zI [.ne KC VA,.ne KD VA] .ff [0,-1,1] rfl w2 w3)))) λw3=>(qa (λz0=>(zI [.ne KC VA,.ne KF VA] .ff [0,-1,1] rfl w2 z0)) (λz0=>(zI [.ne KD VA,.ne KF VA] .ff [0,-1,1] rfl w3 z0))))) λw2=>(Or.elim h3 (λw3=>(qa (λz0=>(zI [.ne KD VA,.ne KF VA] .ff [0,-1,1] rfl w3 z0)) (λz0=>(zI [.ne KC VA,.ne KF VA] .ff [0,-1,1] rfl w2 z0)))) λw3=>(qa (λz0=>(zI [.ne KC VA,.ne KD VA] .ff [0,-1,1] rfl w2 w3)) (λz0=>(zI [.ne KC VA,.ne KD VA] .ff [0,-1,1] rfl w2 w3))))))
   ·exact qK 3 (LB [] [] [] (.nl KC KD) [1] rfl) (LB [] [] [] (.nt KD KG) [1] rfl) (by simp;(first|lia|omega))
  ·exact qK 2 (LB [] [] [] (.nl KC KC) [1] rfl) (LB [] [] [] (.nt KC KG) [1] rfl) (by simp;(first|lia|omega))
 have ez:=h.fr c h1 (qq [.nl KJ VA,.nt VB KG] (.nt VB VA) rfl n9.1 h2) h3 (yI)
 refine List.ne_nil_of_mem (a:=c) (BY.mpr (qa (Dl.mpr (qa h1 (qQ [.nl KJ VA,.nt VB KG,.ne (.a VC KC) VA] (.nt VB (.a KC VC)) [1,1,1,-1] rfl n9.1 h2 (yn (lg0 n9.1 rfl))))) ?_))
 rw [jd ez h1];rfl
theorem ub (B:zS n bads) (h:zh n (kTp kd) bads [] [] T) (w:WF n kd bads [rm n T] [m]) (h1:zh n (kTp kd) bads [rm n T] [m] T1):rm n T1=[]:=by
 refine Fw.mpr λc hc=>?_
 refine qc (ZQ hc) λc2 ez=>?_
 refine qZ (h1.zero B w c2 ez) λz1 z2 z3=>?_
 refine z3 ?_
 have e:=h.fr c c2 z1 z2 (yI)
 rw [Wa,Bt,Wq]
 refine BY.mpr (qa (Dl.mpr (qa c2 (qQ [.nt VA VB,.ne (.a VC KC) VB] (.nt VA (.a KC VC)) [1,1,-1] rfl z1 (yn (qq [.nl KC VA,.nt VA VB] (.nl KC VB) rfl c2 z1))))) ?_)
 rw [jd e c2];rfl
end
section
variable {p:GP} {mg mb:Str->Option yr} (gk:GOk (g4 p) mg mb) {K:LK} {S:LS}
include gk
theorem XN:Binds (g4 p) 284 [.ref a,.int m] [] [(7,.ref a),(10,.int m),(212,.bool false)]:=λvs kw hv hk=>by
 (refine qk hv λv1 oo C h1 g=>?_;refine qk g λv2 oo u h2 e=>?_;clear hv;subst C;subst u)
 obtain rfl:=e;obtain rfl:=hk
 exact qj _ (GF.b_alloc1 v1 v2) (.cons (qy (yL.mp rfl) rfl h1) (.cons (qy (yL.mp rfl) rfl h2) (.cons (qy (yL.mp rfl) rfl (.bool)) .nil)))
theorem Yd (hk:k<480) (ok:FOk (g4 p) f) (hh:f.hd=none) (hC:LC f K) (kk:KOk K) (hT:zh K.n (kTp K.D.kd) K.bads [] [] T)
  (h: ∀ra H' R',qp ((ra,.list (qd (rm K.n T)))::K.G {S with shut:=false,T:=T} {Z with r:=some (.ref ra)}) H' R'->wSs (g4 p) f (k+3) (b_law.drop 38) Q EE ⟨K.loc sh y5 y6 y13 y14 y15 y16 y17 y18 y19 y20 y21 y22 y23,H'⟩):
  wSs (g4 p) f (k+3) (b_law.drop 37) Q EE ⟨K.loc sh y5 y6 y13 y14 y15 y16 y17 y18 y19 y20 y21 y22 y23,K.G {S with shut:=false,T:=T} Z⟩:=by
 have n9:=kk.B.n9
 have a0:qd K.bads=(K.bads.map λc=>((c:Nat):Int)).map V.int:=(DO ..).symm
 refine IV λrr=>?_
 refine ju.range gk ok hh (r:=rr) (.head _) (qa (by decide) (by decide)) (qa (qD [] (.zl (.n UV) (.c VA)) rfl) (lz2 n9.2 rfl)) rfl (by simp [xg,hC.b]) (λj ys H'=>ys=qd (frs T 2 j)/\j<=K.n/\H'=(rr,O.rng 2 ((K.n:Nat):Int) 1)::K.G {S with shut:=false,T:=T} Z) (λq m C j ys H' a1 hj hi=>?_) (λj ys H' hi=>?_) (qy rfl (WI _) rfl) λys H' Dm hi=>?_
 ·(refine qZ hi λX g J=>?_;clear hi;subst X;subst J)
  refine qe K.cb _ ((show _=some ((f.cells.lookup 254).getD 0) from rfl).trans (by rw [hC.b];rfl)) (pm 13 rfl) ?_
  have ef:=vP hT (c:=2+j) (by exact (qD [] (.nl KC (.a KC VA)) rfl)) (by exact (qq [.zt (.c VA) (.s (.c VB) UC)] (.nt (.a KC VA) VB) rfl hj))
  refine qm.notInInts (ns:=K.bads.map λc=>((c:Nat):Int)) (by rw [<- a0];exact pm 19 rfl) ?_
  rw [show (2:Int)+(j:Int)=((2+j:Nat):Int) by exact (qD [] (.ze (.a UC (.c VA)) (.c (.a KC VA))) rfl),<- ef]
  refine H9 (qa (λe=>?_) (λe=>?_))
  ·refine zQ (qx _ rfl) ?_ (qq [.zt (.c VA) (.s (.c VB) UC)] (.nl (.a VA KB) VB) rfl hj) rfl
   rw [xh,e,if_pos rfl]
   exact xk
  ·refine zQ (qx _ rfl) ?_ (qq [.zt (.c VA) (.s (.c VB) UC)] (.nl (.a VA KB) VB) rfl hj) rfl
   rw [xh,e,if_neg (by decide),Wq]
 ·(refine qZ hi λI g oo=>?_;clear hi;subst I)
  rw [yq];exact yX xO (ls1 n9.2 g rfl)
 ·(refine qZ hi λF g u=>?_;clear hi;subst F;subst u)
  rw [show ((K.n:Int) - 2).toNat=K.n - 2 by exact (xJ [.ze (.c VA) (.s (.c VB) UC),.ne (.a VC KC) VB] (.ne VA VC) [1,-1,1] [1,1,-1] rfl (yz (qD [.nl KJ VA] (.zl UA (.s (.c VA) UC)) rfl n9.1)) (yn (lg0 n9.1 rfl)))]
  refine zX K.cr _ _ hC.r (uq2 gur) ?_
  exact h Dm _ _ ((tk0 (.under (.refl _))))
theorem Yp (hk:n<500) (ok:FOk (g4 p) f) (hh:f.hd=none) (hE:qN p mg f) (hC:LC f K) (kk:KOk K) (hL:qC (f.env.qual++"<lambda>") 405 L) (I:FF K.n T ff) (g:T.length=K.n) (Z:rm K.n T=RM) (hl:RM.length<=100) (F:jU T (T.length - 1)=false) (a8:d.length<=10000) (a6: ∀c,2<=c->c<T.length->Mine.Internal.plc K.lo c+4<=d.length)
  (t:qp [(405,.many L),(K.cd,.cell (some (.ref K.D.a))),(K.cr,.cell (some (.ref ra))),(ra,.list (qd RM)),K.D.ha (ff:Nat) tb false,K.D.ho d x,K.D.hc,DK.ht tb T] H R)
  (h: ∀t L' i a x',qC (f.env.qual++"<lambda>") 405 L'->ff<=i->i<K.n->frs T ff (i - ff)=RM->Q (.ref t) ⟨loc,(t,.tup [.bool true,.ref a])::[K.D.ha (i:Nat) tb false,K.D.ho (zq K.lo RM d RM.length) x',K.D.hc,DK.ht tb (qJ (kTp K.D.kd) RM T RM.length),(a,.list (qd RM)),(405,.many L'),(K.cd,.cell (some (.ref K.D.a))),(K.cr,.cell (some (.ref ra))),(ra,.list (qd RM))]++R⟩):
  xZ (g4 p) f n [(84,.free),(263,.free),(9,.globalImplicit)] (Ik (Ib 84 415024028) 213 [(Ig .Mult (Ia 4 415044045) (Ie (Ih 9 415048051) [(Ib 263 415052056)] [] 415048057) 415044057),(It true 415059063)] [] 415024043 415024064) 415016064 (λx σ=>qb (g4 p) f n (.fix (.ref 391)) [x] [] Q EE σ) EE ⟨loc,H⟩:=by
 have n9:=kk.B.n9
 have u:=jD (n:=K.n) (T:=T) (lg0 n9.1 rfl) I
 refine xL gk (by exact (lk0 hk rfl)) ok hh hE (cl:=[(263,K.cr),(84,K.cd)]) (by simp [xg,hC.d,hC.r]) rfl (by
  show [(263,(f.cells.lookup 263).getD 0),(84,(f.cells.lookup 84).getD 0)]=_
  rw [hC.r,hC.d];rfl) rfl (λN hN=>by cases N;cases hN;rfl) hL t
  (Q0:=λL' y H'=>∃i a x',y= .ref a/\ff<=i/\i<K.n/\frs T ff (i - ff)=RM/\H'=[K.D.ha (i:Nat) tb false,K.D.ho (zq K.lo RM d RM.length) x',K.D.hc,DK.ht tb (qJ (kTp K.D.kd) RM T RM.length),(a,.list (qd RM)),(405,.many L'),(K.cd,.cell (some (.ref K.D.a))),(K.cr,.cell (some (.ref ra))),(ra,.list (qd RM))])
  (E0:=λL' H'=>False)
  (λfa fo L' f' J X a7=>?_) (λt L' x H' a0 hq=>?_) (λt L' H' a0 he=>he.elim)
 ·refine qe K.cd _ (by rw [X];rfl) (pm 2 rfl) ?_
  refine IZ qg gk J (C:=380) (pm 5 rfl) (fa:=284) rfl rfl ?_
  refine qe K.cr _ (by rw [X];rfl) (pm 3 rfl) ?_
  refine IH (pm 4 rfl) (by rw [yq];exact (ln0 hl rfl)) ?_
  rw [yq]
  refine IP (by first|exact .inl (qa (by decide) (by decide))|exact .inr (.inl ⟨by decide,by decide⟩)) ?_
  refine IK gk J GF.f_PyFat_allocate_bytes (qs.hd0 a7 (Qu gk (k:=n+6) (by exact (lk1 hk rfl)) kk.D (tb:=tb) (tbl:=T) (d:=d) (x:=x) (er:=true) (nd:=RM.length) (ff:=ff) (IN (i:=7) (j:=10) (k:=212) GF.b_PyFat_allocate_bytes rfl) (uA [.ze (.a (.m 4 ZA) ZB) (.n (.m 4 (.c VA))),.zl UA ZB,.zt ZB UF] (.ze (.n ZA) (.c VA)) [4,1,1,0] [4,-1,0,1] rfl (WG _ 4) (Wj _ (by decide)) (yZ _ (by decide))) a8 (qq [.ne VA VB,.nl VB KK] (.nl VA KO) rfl g n9.2) (qM [.ne VA VB,.nl KJ VB] (.nl KD VA) [1,-1,1] rfl g n9.1) (by rw [g];exact I.1) F (by rw [g,u,Z];exact yM _) a6)) ((tk5 (tk5 (tk5 (tk5 .nil))))) (λy H' h'=>?_) λoo oo h=>h.elim
  (refine vL h' λi i1 i2 oo i4 a3=>?_;refine qB a3 λa x' a5 a4=>?_;clear h';subst a5;subst a4)
  rw [g] at i2
  have e:=wx (by exact (lg0 n9.1 rfl)) I i1 i2 i4
  rw [Z,Bs] at e
  rw [e]
  exact qj _ (Iy (.refl _) (.drop (.refl _))) (ji i a x' rfl i1 i2 e rfl)
 ·(refine ja hq λi a x' a2 i1 i2 e a1=>?_;clear hq;subst a2;subst a1)
  exact h t L' i a x' a0 i1 i2 e
theorem UO (hk:n<500) (ok:FOk (g4 p) f) (hh:f.hd=none) (hE:qN p mg f) (hC:LC f K) (kk:KOk K) (hL:qC (f.env.qual++"<lambda>") 405 L) (J:FF K.n T ff) (g:T.length=K.n) (a2:rm K.n T=[]) (F:jU T (T.length - 1)=false)
  (t:qp [(405,.many L),(K.cd,.cell (some (.ref K.D.a))),K.D.ha (ff:Nat) tb false,K.D.ho d x,K.D.hc,DK.ht tb T] H R)
  (h: ∀t L',qC (f.env.qual++"<lambda>") 405 L'->Q (.ref t) ⟨loc,(t,.tup [.bool false,.none])::[K.D.ha (ff:Nat) tb false,K.D.ho d x,K.D.hc,DK.ht tb T,(405,.many L'),(K.cd,.cell (some (.ref K.D.a)))]++R⟩):
  xZ (g4 p) f n [(84,.free)] (Ik (Ib 84 417024028) 213 [(Ia 1 417044045)] [] 417024043 417024046) 417016046 (λx σ=>qb (g4 p) f n (.fix (.ref 391)) [x] [] Q EE σ) EE ⟨loc,H⟩:=by
 have n9:=kk.B.n9
 have u:=jD (n:=K.n) (T:=T) (lg0 n9.1 rfl) J
 refine xL gk (by exact (lk0 hk rfl)) ok hh hE (cl:=[(84,K.cd)]) (by simp [xg,hC.d]) rfl (by
  show [(84,(f.cells.lookup 84).getD 0)]=_
  rw [hC.d];rfl) rfl (λN hN=>by cases N;cases hN;rfl) hL t
  (Q0:=λL' y H'=>False)
  (E0:=λL' H'=>H'=[K.D.ha (ff:Nat) tb false,K.D.ho d x,K.D.hc,DK.ht tb T,(405,.many L'),(K.cd,.cell (some (.ref K.D.a)))])
  (λfa fo L' f' I a1 a0=>?_) (λt L' x H' X hq=>hq.elim) (λt L' H' X he=>?_)
 ·refine qe K.cd _ (by rw [a1];rfl) (pm 2 rfl) ?_
  refine IZ qg gk I (C:=380) (pm 3 rfl) (fa:=284) rfl rfl ?_
  refine IK gk I GF.f_PyFat_allocate_bytes (qs.hd0 a0 (jy gk (k:=n+6) (by exact (lk1 hk rfl)) kk.D (tb:=tb) (tbl:=T) (d:=d) (x:=x) (er:=false) (nd:=1) (ff:=ff) (XN gk) (by decide) (qa (by decide) (by decide)) (qq [.ne VA VB,.nl VB KK] (.nl VA KO) rfl g n9.2) (qM [.ne VA VB,.nl KJ VB] (.nl KD VA) [1,-1,1] rfl g n9.1) (by rw [g];exact J.1) F (by rw [g,u,a2];decide))) ((tk3 (tk3 (tk3 (tk3 .nil))))) (λoo oo h=>h.elim) λe H' h'=>?_
  (refine qc h' λh1 Z=>?_;clear h';subst Z)
  exact qK _ (Iy (.refl _) (.drop (.refl _))) h1 rfl
 ·subst he
  exact h t L' X
theorem vU (hk:k<480) (ok:FOk (g4 p) f) (hh:f.hd=none) (hC:LC f K) (hE:qN p mg f) (kk:KOk K) (a1:T=xj K.n (kTp K.D.kd) K.bads) (a5:FF K.n T S.ff) (u:xe K.lo K.n S.ps) (al:qC (f.env.qual++"<lambda>") 405 S.L) (a7:S.d=S.ps.flatten)
  (h: ∀loc H L',qC (f.env.qual++"<lambda>") 405 L'->(405,O.many L')∈H->Q (.ret (.bool true)) ⟨loc,H⟩):
  wSs (g4 p) f (k+3) (b_law.drop 37) Q EE ⟨K.loc sh y5 y6 y13 y14 y15 y16 y17 y18 y19 y20 y21 y22 y23,K.G {S with shut:=false,T:=T} Z⟩:=by
 have n9:=kk.B.n9
 have a2:=WF.none K.n K.D.kd K.bads
 have hT:zh K.n (kTp K.D.kd) K.bads [] [] T:=by
  have:=jE kk.B a2
  rw [k8,<- a1] at this;exact this
 refine Yd gk hk ok hh hC kk hT λra H' R' t=>?_
 have up: ∀{Z:LZ} {H' R':List (yu × O)},qp ((ra,.list (qd (rm K.n T)))::K.G {S with shut:=false,T:=T} Z) H' R'->∀q∈(ra,O.list (qd (rm K.n T)))::K.G {S with shut:=false,T:=T} Z,q∈H':=λt q hq=>t.perm.mem_iff.mpr (yA _ hq)
 refine qe K.cd _ hC.d (up t _ (pm 9 rfl)) ?_
 refine Ir qg gk ok (up t _ (show K.D.ha (S.ff:Nat) S.tb false∈_ by exact pm 15 rfl)) (by rfl) (by rfl) (by rfl) ?_
 refine qe K.ctop _ hC.top (up t _ (pm 14 rfl)) ?_
 refine qe K.cb _ hC.b (up t _ (pm 13 rfl)) ?_
 intro la lb
 refine qb.wk (.cons .head (.cons .head t)) ?_
 refine IK gk ok GF.f_law_table (qs.hd0 hh (kJ gk (k:=k+3) (by exact (lk1 hk rfl)) (cnt:=K.n) (top:=kTp K.D.kd) (bads:=K.bads) (b:=K.ba) (ca:=la) (ma:=lb) (chs:=[]) (marks:=[]) (by exact qa (lg0 n9.1 rfl) (ll0 n9.2 rfl)) (λc hc=>(kk.B.rng c hc).2) (by rw [kk.B.len];decide) rfl (by decide) λc hc=>(yI hc).elim)) ((.cons (wb (rq4 (rq1 rq0))) (tk1 (.left _ _)))) (λy H' h'=>?_) λoo oo h=>h.elim
 (refine qf h' λt2 ai ah=>?_;clear h';subst ai;subst ah)
 rw [show qY (xj K.n (kTp K.D.kd) K.bads) (Fe (·.2) ([]:List (yu × List Nat))) []=T by rw [Dq,k8,a1]]
 refine qm.neIs (xs:=T.map V.int) rfl (pm 22 rfl) (.head _) (by show k+3+64<9900;exact (lk2 hk rfl)) ?_
 refine H9 (qX ?_)
 have J:(rm K.n T).length<=100:=yX xO (by exact (qq [.nl VA KK,.ne (.a VB KC) VA] (.nl VB KO) rfl n9.2 (yn (lg0 n9.1 rfl))))
 have a6:=vF kk.B hT
 have a0: ∀c∈rm K.n T,2<=c/\T[c]? =some 0:=λc hc=>ZQ hc
 have F:WF K.n K.D.kd K.bads [rm K.n T] [kTp K.D.kd]:=WF.new kk.B a2 hT a6 Ql a0
 have C:zh K.n (kTp K.D.kd) K.bads [rm K.n T] [kTp K.D.kd] (qJ (kTp K.D.kd) (rm K.n T) T (rm K.n T).length):=by
  have:=jE kk.B F
  rw [<- a1] at this;exact this
 have a4:=ub kk.B hT F C
 have aj:=jD (n:=K.n) (T:=T) (by exact (lg0 n9.1 rfl)) a5
 have g:=hT.len
 have a3:=hT.lastNo kk.B
 have I:S.d.length=K.lo+4*(K.n - 1):=a7 ▸ u.total (by exact (lg0 n9.1 rfl))
 have ab:S.d.length<=10000:=by have:=kk.lo;exact (zN [.nl VA KK,.ne VB (.a VC (.m 4 VD)),.nl VC KO,.ne (.a VD KB) VA] (.nl VB KR) [1,4,1,1,4] rfl n9.2 I this (yn (lg0 n9.1 rfl)))
 have ak: ∀c,2<=c->c<T.length->Mine.Internal.plc K.lo c+4<=S.d.length:=λc h2 hc=>by
  rw [g] at hc
  rw [I]
  unfold Mine.Internal.plc;exact (LB [_,_,_,_,_] [] [.nt VA VB,.ne (.a VC KB) VB,.ne (.a VD KC) VA] (.nl (.a (.a VE (.m 4 VD)) KF) (.a VE (.m 4 VC))) [1,4,-4,4] rfl hc (yn (lg0 n9.1 rfl)) (yn h2))
 have a8:qY (xj K.n (kTp K.D.kd) K.bads) [rm K.n T] [kTp K.D.kd]=qJ (kTp K.D.kd) (rm K.n T) T (rm K.n T).length:=by rw [a1];rfl
 generalize an:rm K.n T=RM at*
 generalize a9:qJ (kTp K.D.kd) RM T RM.length=T1 at*
 refine xZ.tk (H₂:=(ra,.list (qd RM))::K.G {S with shut:=false,T:=T} {Z with r:=some (.ref ra)}) ((tk4 (tk4 (tk4 (tk4 (tk4 (tk4 (tk4 (tk4 (tk4 (tk4 (tk4 (tk4 (tk4 (tk4 (tk4 (tk4 (tk4 (tk4 (tk4 (tk1 (tk3 (tk3 (tk3 (tk3 (.under (.under (.under (.refl _))))))))))))))))))))))))))))) ?_
 refine Yp gk (by exact (lk1 hk rfl)) ok hh hE hC kk al a5 g an J a3 ab ak ((tk1 (tk8 (tk4 (tk0 (ZK (ZK (ZK (ZK .nil))))))))) λt L' i a x' aq i1 i2 au=>?_
 rw [a9]
 refine qe K.cr _ hC.r (pm 8 rfl) ?_
 intro b2
 refine IF (k:=1) (.tail _ (.head _)) (.head _) (.inl (qa rfl (.inr (.inl (qx _ rfl))))) (Sm.nats (fl:=RM) (pm 6 rfl) (pm 10 rfl)) (by show k+3+1+1<9900;exact (lk3 hk rfl)) ?_
 refine H9 (qX ?_)
 have ar:FF K.n T1 i:=FF.alloc kk.B a2 hT F C a5 i1 i2 λx hx=>by
  refine Or.elim hx (λhx=>?_) λhx=>?_
  ·exact (yI hx).elim
  ·rw [au] at hx
   rw [Wa,Bt,Wq];exact hx
 have X: ∀x∈RM,2<=x/\x<=K.n:=λx hx=>(qa ((a0 x hx).1) (by have:=qw (a0 x hx).2;exact (qR [.ne VA VB,.nt VC VA] (.nl VC VB) rfl g this)))
 refine xZ.tk (H₂:=(ra,.list (qd RM))::K.G {S with shut:=false,T:=T1,ff:=i,L:=L',x:=x',d:=zq K.lo RM S.d RM.length} {Z with r:=some (.ref ra)}) ((Uo (tk7 (tk9 (tk9 (tk9 (tk8 (tk8 (tk8 (tk8 (tk7 (tk7 (tk7 (tk7 (tk7 (tk7 (tk2 (tk2 (tk2 (tk2 (tk3 (tk3 (tk3 (tk3 (tk3 (.under (.under (.under (.left _ _))))))))))))))))))))))))))))) ?_
 refine UO gk (by exact (lk1 hk rfl)) ok hh hE hC kk aq ar C.len a4 (C.lastNo kk.B) ((tk1 (tk8 (.cons (rq8 (rq4 (rq1 rq0))) (.cons (rq8 (rq4 (rq1 rq0))) (.cons (rq8 (rq4 (rq1 rq0))) (.cons (rq8 (rq4 (rq1 rq0))) .nil))))))) λt ae aa=>?_
 intro b3
 refine IF (k:=0) (.tail _ (.head _)) (.head _) (qa rfl (.inr (.inl (qx _ rfl)))) (qa rfl (.inl rfl)) (by show k+3+0+1<9900;exact (lk3 hk rfl)) ?_
 refine H9 (qX ?_)
 refine qe K.cr _ hC.r (pm 12 rfl) ?_
 refine Q6 gk ok hh hC (S:={S with shut:=false,T:=T1,ff:=i,L:=ae,x:=x',d:=zq K.lo RM S.d RM.length}) (Z:={Z with r:=some (.ref ra)}) (M:=qO S.chs) (fl:=RM) (λc hc=>by show c<S.ps.length;rw [u.len];have:=(X c hc).2;exact (qq [.nl VA VB] (.nt VA (.a VB KB)) rfl this)) (by show S.ps.length<=100;rw [u.len];exact (ll1 n9.2 rfl)) ((tk8 (tk6 (tk7 (tk7 (tk7 (tk7 (tk7 (tk7 (tk7 (tk6 (tk6 (tk6 (tk6 (tk6 (tk6 (tk2 (tk2 (tk2 (tk2 (tk2 (tk2 (tk2 (tk2 (tk2 (.under (.under (.left _ _)))))))))))))))))))))))))))) λav=>?_
 refine qe K.cd _ hC.d (pm 9 rfl) ?_
 refine qe K.ctop _ hC.top (pm 14 rfl) ?_
 refine qe K.cb _ hC.b (pm 13 rfl) ?_
 refine qe K.cr _ hC.r (pm 5 rfl) ?_
 intro lc
 refine qe K.ctop _ hC.top (pm 15 rfl) ?_
 intro ld
 have am: ∀q∈[(ra,RM)],q.2≠[]/\q.2.length<=100/\∀c∈q.2,c<K.n:=λq hq=>by
  rw [yN.mp hq]
  exact qy a6 J (λc hc=>by have:=qw (a0 c hc).2;exact (qR [.ne VA VB,.nt VC VA] (.nt VC VB) rfl g this))
 have A:qs (g4 p) (k+3) none (.ref 398) [.int (K.n:Nat),.int (kTp K.D.kd),.ref K.ba,.ref lc,.ref ld] [] [(K.ba,.list (qd K.bads)),(lc,.list [.ref ra]),(ld,.list [.int (kTp K.D.kd)]),(ra,.list (qd RM))]
   (λy H'=>∃t,y= .ref t/\H'=[DK.ht t T1,(K.ba,.list (qd K.bads)),(lc,.list [.ref ra]),(ld,.list [.int (kTp K.D.kd)]),(ra,.list (qd RM))]) (λoo oo=>False):=
  I5 (kJ gk (k:=k+3) (by exact (lk1 hk rfl)) (cnt:=K.n) (top:=kTp K.D.kd) (bads:=K.bads) (b:=K.ba) (ca:=lc) (ma:=ld) (chs:=[(ra,RM)]) (marks:=[kTp K.D.kd]) (by exact qa (lg0 n9.1 rfl) (ll0 n9.2 rfl)) (λc hc=>(kk.B.rng c hc).2) (by rw [kk.B.len];decide) rfl (by show 1<=100;decide) am) (λy H' zf=>zf.elim λt zf=>zf.elim λe1 e2=>(qj t e1 (by
   rw [show qY (xj K.n (kTp K.D.kd) K.bads) (Fe (·.2) [(ra,RM)]) [kTp K.D.kd]=T1 from a8] at e2
   exact e2))) λoo oo h=>h
 refine IK gk ok GF.f_law_table (qs.hd0 hh A) ((.cons (wb (rq4 (rq1 rq0))) (tk1 (.left _ _)))) (λy H' h'=>?_) λoo oo h=>h.elim
 (refine qf h' λt3 ag af=>?_;clear h';subst ag;subst af)
 refine qe K.cp _ hC.p (pm 16 rfl) ?_
 refine qe K.cr _ hC.r (pm 9 rfl) ?_
 intro le
 have ac:(zP S.ps RM).flatten=zq K.lo RM S.d RM.length:=by
  rw [a7,u.zer (by exact (lg0 n9.1 rfl)) X (yM _),Bs]
 have ao:(zP S.ps RM).length=K.n+1:=by rw [Jt,u.len]
 have ap:xe K.lo K.n (zP S.ps RM):=u.zP λc hc=>(X c hc).1
 have B:qs (g4 p) (k+3) none (.ref 403) [.ref K.D.a,.ref K.D.o,.ref t3,.ref K.pa,.ref le] [] [K.D.ha (i:Nat) S.tb false,K.D.ho (zq K.lo RM S.d RM.length) x',DK.ht S.tb T1,DK.ht t3 T1,(K.pa,.list ((zP S.ps RM).map V.bytes)),(le,.list [.ref ra]),(ra,.list (qd RM))]
   (λy H'=>y= .bool true) (λoo oo=>False):=
  I5 (JF gk (k:=k+3) (by exact (lk1 hk rfl)) kk.D.kd (D:=K.D) (tb:=S.tb) (tbl:=T1) (ff:=(i:Nat)) (x0:=x') (ro:=false) (d:=zq K.lo RM S.d RM.length) (t2:=t3) (pa:=K.pa) (ca:=le) (parts:=zP S.ps RM) (chs:=[(ra,RM)]) (by rw [C.len];exact (ll0 n9.2 rfl)) ac (by rw [<- ac,ap.total (by exact (lg0 n9.1 rfl))];have:=kk.lo;exact (qQ [.ne VA (.a VB (.m 4 VC)),.nl VA KR] (.nl (.a VB (.m 4 VC)) KR) [1,-1,1] rfl I ab)) (by rw [ao];exact (qD [.nl KJ VA] (.nl KC (.a VA KB)) rfl n9.1)) (by show 1<=100;decide) λq hq=>by
   rw [yN.mp hq]
   exact qy J (λc hc=>(X c hc).1) (qj (kTp K.D.kd) (C.chain F (k:=0) rfl rfl) (F.mks _ (.head _)))) (λy H' h=>h.1) λoo oo h=>h
 refine IK gk ok GF.f_law_same (qs.hd0 hh B) ((.cons (wb (rq4 rq0)) (.cons (wb (rq4 rq0)) (.cons (wb (rq4 (rq1 rq0))) (tk1 (.cons (wb (rq4 (rq2 rq0))) (tk0 (tk3 .nil)))))))) (λy H' h'=>?_) λoo oo h=>h.elim
 subst h'
 exact h _ _ ae aa (yx _ (pm 3 rfl))
end
section
variable {p:GP} {mg mb:Str->Option yr} (gk:GOk (g4 p) mg mb)
include gk
theorem U8 (hk:k<900) {D:DK}:
  qs (g4 p) k hd (.ref 162) [.ref D.a,x] [] [(D.a,.inst 380 (D.pf .none ff tb ro) none)] (λy H'=>y= .none/\H'=[(D.a,.inst 380 (D.pf x ff tb ro) none)]) (λoo oo=>False):=by
 refine Ip gk GF.f_PyFat_set_fp hk (Im (i:=7) (j:=32) GF.b_PyFat_set_fp rfl) rfl rfl [some (.ref D.a),some x] rfl λf ok hh=>?_
 refine Ir qg gk ok (pm 0 rfl) rfl (by rfl) (by rfl) ?_
 refine qm.isnot rfl ?_
 refine H9 (qX ?_)
 refine I7 qg gk ok (uq0) rfl rfl ?_
 exact zp (.refl _) (qa rfl rfl)
variable {K:LK}
theorem vh (hk:k<480) (ok:FOk (g4 p) f) (hh:f.hd=none) (hC:LC f K) (hE:qN p mg f) (F:f.cells.lookup 80=some clow) (ab:f.cells.lookup 165=some cim) (B:zS K.n K.bads) (aa:j7 K.D.kd) (J:K.lo=sh+2+2*x) (I:K.lo<=20) {ns:List Int} (hb:LsB (g4 p) K.sa (ns.map V.int)) (a9:ns.length<=1000)
   {ps:List (List UInt8)} (hw:WF K.n K.D.kd K.bads (chs.map (·.2)) marks) (a7:xe K.lo K.n ps) (af:im=ps.flatten) (hL:qC (f.env.qual++"<lambda>") 405 L)
  (t:qp ((405,.many L)::(K.cz,.cell none)::(K.cw,.cell none)::(K.cs,.cell none)::(K.cr,.cell r)::(K.cn,.cell none)::(K.cm,.cell none)::(K.cl,.cell none)::(K.cd,.cell none)::(K.cj,.cell none)::(K.ct,.cell none)::(K.cp,.cell (some (.ref K.pa)))::(K.cb,.cell (some (.ref K.ba)))::(K.ctop,.cell (some (.int (kTp K.D.kd))))::(clow,.cell (some (.int (K.lo:Nat))))::(cim,.cell (some (.bytes im)))::(K.ba,.list (qd K.bads))::(K.ca,.list (qL chs))::(K.ma,.list (marks.map V.int))::(K.pa,.list (ps.map V.bytes))::qO chs) H R)
  (h: ∀loc H L',qC (f.env.qual++"<lambda>") 405 L'->(405,O.many L')∈H->Q (.ret (.bool true)) ⟨loc,H⟩):
  wSs (g4 p) f (k+3) (b_law.drop 22) Q EE ⟨[some (.ref K.sa),y1,some (.int K.D.kd),some (.int (K.n:Nat)),some (.int (sh:Nat)),y5,y6,y7,y8,some (.ref K.ca),some (.ref K.ma),none,none,none,none,none,none,none,none,none,none,none,none,none],H⟩:=by
 have n9:=B.n9
 have up: ∀{l H R:List (yu × O)},qp l H R->∀q∈l,q∈H:=λt q hq=>t.perm.mem_iff.mpr (yA _ hq)
 refine qe cim _ ab (up t _ (pm 15 rfl)) ?_
 refine qb.wk t ?_
 refine ql.make qg gk ok (C:=125) (fI:=80) rfl (λo=>(UE gk (by exact (lk2 hk rfl)) (a:=o) (d:=im)).mono (λy H' h=>(qa h.1 h.2)) λoo oo h=>h) (λao H' h'=>?_) λoo oo h=>h.elim
 subst h'
 refine ql.make qg gk ok (C:=380) (fI:=155) rfl (λo=>(vp gk (by exact (lk2 hk rfl)) (a:=o) (off:=(sh:Nat))).mono (λy H' h=>(qa h.1 h.2)) λoo oo h=>h) (λad H' h'=>?_) λoo oo h=>h.elim
 (refine qA h' λb0 a6=>?_;clear h';subst a6)
 refine zX K.cd _ _ hC.d (uq8 (uq2 uq0)) ?_
 intro ac
 refine jw.cons gk (yL.mp rfl) (uq0) (WI _) ?_
 refine jw.cons gk (yL.mp rfl) (uq0) (by show 1<=1000;decide) ?_
 refine jw.nil ?_
 refine qe K.cd _ hC.d (pm 11 rfl) ?_
 refine I7 qg gk ok (uq1 uq0) rfl rfl ?_
 refine qe K.cd _ hC.d (pm 11 rfl) ?_
 refine I7 qg gk ok (uq1 uq0) rfl rfl ?_
 refine qe K.ctop _ hC.top (pm 16 rfl) ?_
 refine qe K.cb _ hC.b (pm 15 rfl) ?_
 refine qc (hw.lens) λl1 l2=>?_
 have X:=hw.len
 rw [yq] at l1 X
 have ag: ∀c∈chs,c.2≠[]/\c.2.length<=100/\∀x∈c.2,x<K.n:=λc hc=>by
  have hm:c.2∈chs.map (·.2):=yD.mpr (qj c hc rfl)
  exact qy (hw.ne _ hm) (by have:=l2 _ hm;exact (ls1 n9.2 this rfl)) (λx hx=>(hw.rng x (WT.mpr (qj _ hm hx))).2.1)
 have tab:=λk (hk:k<600)=>kJ gk (k:=k) hk (cnt:=K.n) (top:=kTp K.D.kd) (bads:=K.bads) (b:=K.ba) (ca:=K.ca) (ma:=K.ma) (chs:=chs) (marks:=marks) (by exact qa (lg0 n9.1 rfl) (ll0 n9.2 rfl)) (λc hc=>(B.rng c hc).2) (by rw [B.len];decide) X (ls1 n9.2 l1 rfl) ag
 refine IK gk ok GF.f_law_table (qs.hd0 hh (tab (k+3) (lk1 hk rfl))) ((.cons (wb (rq2 (rq1 rq0))) (.cons (wb (rq2 (rq1 rq0))) (.cons (wb (rq2 (rq1 rq0))) (.under (.under (.under (.under (.under (.under (.under (.under (.under (.under (.under (.under (.under (.under (.under (.under (.under (.under (.under (.under (.refl _))))))))))))))))))))))))) (λy H' h'=>?_) λoo oo h=>h.elim
 (refine qf h' λtb a5 a4=>?_;clear h';subst a5;subst a4)
 refine qe K.cd _ hC.d (yx _ (pm 11 rfl)) ?_
 refine I7 qg gk ok (.right (uq1 uq0)) rfl rfl ?_
 refine qe K.cd _ hC.d (yx _ (pm 11 rfl)) ?_
 refine I7 qg gk ok (.right (uq1 uq0)) rfl rfl ?_
 refine qe clow _ F (yx _ (pm 17 rfl)) ?_
 refine IB ?_
 refine IQ (by decide) (.inl (by decide)) ?_
 refine qe K.cd _ hC.d (yx _ (pm 11 rfl)) ?_
 refine I7 qg gk ok (.right (uq1 uq0)) rfl rfl ?_
 refine qe K.cd _ hC.d (yx _ (pm 11 rfl)) ?_
 refine I7 qg gk ok (.right (uq1 uq0)) rfl rfl ?_
 refine qe K.cd _ hC.d (yx _ (pm 11 rfl)) ?_
 refine I7 qg gk ok (.right (uq1 uq0)) rfl rfl ?_
 refine qe K.cd _ hC.d (yx _ (pm 11 rfl)) ?_
 refine IZ qg gk ok (C:=380) (yx _ (pm 1 rfl)) (fa:=162) rfl rfl ?_
 refine IK gk ok GF.f_PyFat_set_fp (U8 gk (k:=k+3) (by exact (lk1 hk rfl)) (D:=⟨ad,ao,ac,(sh:Nat),(((K.lo:Nat):Int) - ((sh:Nat):Int)) / 2,K.D.kd⟩) (x:= .ref ao) (ff:=0) (tb:=tb) (ro:=false)) ((.cons (.right (rq1 rq0)) .nil)) (λy H' h'=>?_) λoo oo h=>h.elim
 (refine qc h' λa3 a2=>?_;clear h';subst a3;subst a2)
 refine qe K.ctop _ hC.top (yx _ (yx _ (pm 15 rfl))) ?_
 refine qe K.cb _ hC.b (yx _ (yx _ (pm 14 rfl))) ?_
 refine IK gk ok GF.f_law_table (qs.hd0 hh (tab (k+3) (lk1 hk rfl))) ((tk2 (tk2 (tk2 (.under (.under (.left _ _))))))) (λy H' h'=>?_) λoo oo h=>h.elim
 (refine qf h' λtt a1 a0=>?_;clear h';subst a1;subst a0)
 refine zX K.ct _ _ hC.t (.right (uq8 (uq4 (uq2 uq0)))) ?_
 generalize hT:qY (xj K.n (kTp K.D.kd) K.bads) (chs.map (·.2)) marks=T
 refine qv.cutLB hb ok (by decide) (by decide) (by rw [yq];exact (ll0 a9 rfl)) λla=>?_
 rw [show cut (ns.map V.int) 1 9=(cut ns 1 9).map V.int by unfold cut;rw [HZ,HY]]
 generalize cut ns 1 9=ws
 refine qb.enumL (.head _) λe it oi a8=>?_
 have ah:zh K.n (kTp K.D.kd) K.bads (chs.map (·.2)) marks T:=hT ▸ jE B hw
 let K':LK:={K with D:=⟨ad,ao,ac,(sh:Nat),(((K.lo:Nat):Int) - ((sh:Nat):Int)) / 2,K.D.kd⟩,la:=la,lx:=ws.map V.int,v1:=y1,v4:=some (.int (sh:Nat)),v7:=y7,v8:=y8}
 let S':LS:={ff:=0,tb:=tb,shut:=false,x:=0,ps:=ps,chs:=chs,marks:=marks,L:=L,T:=T,d:=im}
 have u:LC f K':=⟨hC.z,hC.w,hC.s,hC.r,hC.nw,hC.m,hC.l,hC.d,hC.j,hC.t,hC.p,hC.b,hC.top⟩
 have kk:KOk K':=⟨B,⟨aa,λc hc=>by
  show ((((c:Nat):Int) - 2)*2+(((K.lo:Nat):Int) - ((sh:Nat):Int)) / 2)*2+((sh:Nat):Int)=((plc K.lo c:Nat):Int)
  unfold plc
  obtain ⟨c',rfl⟩: ∃c',c=c'+2:=⟨c - 2,by exact (zH [.ne (.a VA KC) VB] (.ne VB (.a VA KC)) [1,1] [1,-1] rfl (yn hc))⟩
  rw [show (((K.lo:Nat):Int) - ((sh:Nat):Int)) / 2=1+((x:Nat):Int) by exact (LA [_,_,_] [_,_] [.ne VA (.a (.a VB KC) (.m 2 VC)),.ze (.a (.m 2 ZA) ZB) (.s (.c VA) (.c VB)),.zl UA ZB,.zt ZB UC] (.ze ZA (.a UB (.c VC))) [2,-1,-1,0,1] [2,1,1,1,0] rfl J (WG _ 2) (Wj _ (by decide)) (yZ _ (by decide))),Nat.add_sub_cancel]
  exact (jA [.ne VA (.a (.a VB KC) (.m 2 VC))] (.ze (.a (.r (.a (.r (.s (.c (.a VD KC)) UC) 2) (.a UB (.c VC))) 2) (.c VB)) (.c (.a VA (.m 4 VD)))) [1,1] [1,-1] rfl J)⟩,by show K.lo<=100;exact (ll0 I rfl)⟩
 have hI:zJ K' S' (f.env.qual++"<lambda>"):=⟨hw,(qa (by show 0<K.n;exact (lg1 n9.1 rfl)) (λc h1 h2=>absurd h2 (DJ _))),a7,hL,hT.symm,af⟩
 refine vc gk hk ok hh u hE kk hI (Z:=⟨none,none,none,r,none,none,none,none,some (.ref tt)⟩) rfl a8 (by (repeat first|exact qp.nil|exact qp.reflM|exact qp.leftM|apply qp.underM|(apply qp.cons;focus ((repeat first|exact Rem.head|apply Rem.tail|apply Rem.right);done)))) λS1 Z1 y5 y6 y13 y14 y15 y16 y17 y18 y19 y20 y21 y22 y23 tt g=>?_
 refine YD gk hk ok hh u kk g (R:=[DK.ht tt S1.T]) (Z:={Z1 with t:=some (.ref tt)}) ((.under (.refl _))) λy6 ff tb ae=>?_
 exact vU gk hk ok hh u hE kk (S:={S1 with ff:=ff,tb:=tb}) rfl ae g.pt g.lt g.ed h
end
noncomputable def pcs (im:List UInt8) (lo m:Nat):List (List UInt8):=(BN m).map λi=>(im.drop (lo+4*i)).take 4
theorem ZZ {lo m:Nat}:pcs im lo (m+1)=pcs im lo m++[(im.drop (lo+4*m)).take 4]:=by
 unfold pcs;rw [HA,yE];rfl
theorem Yv {lo m:Nat}:(pcs im lo m).flatten=(im.drop lo).take (4*m):=by
 induction m with
 |zero=>rfl
 |succ m ih=>
  rw [ZZ,Wy,ih,Wa,Bt,Wq,<- HL,show 4*(m+1)=4*m+4 by exact (qD [] (.ne (.m 4 (.a VA KB)) (.a (.m 4 VA) KF)) rfl),List.take_add]
noncomputable def pts (im:List UInt8) (lo n:Nat):List (List UInt8):=([im.take lo,[]]++pcs im lo (n - 2))++[im.drop (lo+4*n - 8)]
theorem YW {lo n:Nat} (hn:9<=n):(pts im lo n).flatten=im:=by
 unfold pts
 rw [Wy,Wy,Yv,show lo+4*n - 8=lo+4*(n - 2) by exact (jA [.ne (.a VA KI) (.a VB (.m 4 VC)),.ne (.a VD KC) VC] (.ne VA (.a VB (.m 4 VD))) [1,-1,4] [1,1,-4] rfl (yn (qM [.nl KJ VA] (.nl KI (.a VB (.m 4 VA))) [1,4] rfl hn)) (yn (lg0 hn rfl))),<- HL]
 simp only [Wa,Bt,Wq,DI,yG,Fj]
theorem jr {lo m:Nat}:(pcs im lo m).length=m:=by unfold pcs;rw [yq,BC]
theorem uI {lo n:Nat} (hn:9<=n) (hl:im.length=lo+4*n - 4):xe lo n (pts im lo n) where
 len:=by unfold pts;rw [yS,yS,jr];simp only [WE,List.length_nil];exact (zH [.ne (.a VA KC) VB] (.ne (.a (.a (.a (.a KA KB) KB) VA) (.a KA KB)) (.a VB KB)) [1,-1] [1,1] rfl (yn (lg0 hn rfl)))
 p0:=by
  show (im.take lo).length=lo
  rw [Wx];exact (zH [.ne VA VB] (.ne VA VB) [1,-1] [1,1] rfl (Wz (zN [.nl KJ VA,.ne VB VC,.ne (.a VC KF) (.a VD (.m 4 VA))] (.nl VD VB) [1,4,-1,-1] rfl hn hl (yn (qM [.nl KJ VA] (.nl KF (.a VB (.m 4 VA))) [1,4] rfl hn)))))
 p1:=rfl
 pc:=λc h2 hc=>by
  obtain ⟨j,rfl⟩: ∃j,c=j+2:=(qx (c - 2) (by exact (zH [.ne (.a VA KC) VB] (.ne VB (.a VA KC)) [1,1] [1,-1] rfl (yn h2))))
  unfold pts
  rw [We,yG,Wn (by simp),show j+2 - [im.take lo,[]].length=j by simp]
  refine Or.elim (W5 j (n - 2)) (λhj=>?_) λhj=>?_
  ·rw [Ww (by rw [jr];exact hj)]
   unfold pcs
   rw [yO,List.getElem?_range hj]
   show ((im.drop (lo+4*j)).take 4).length=4
   rw [Wx,Ws];exact (uc [.ne VA KF] (.ne VA KF) [1,-1] [1,1] rfl (Wz (LB [_,_,_,_,_,_] [] [.ne VA VB,.nl (.a VC KC) VD,.ne (.a VB KF) (.a VE (.m 4 VD)),.ne (.a VF (.a VE (.m 4 VC))) VA] (.nl KF VF) [1,-1,4,-1,-1] rfl hl hc (yn (qM [.nl KJ VA] (.nl KF (.a VB (.m 4 VA))) [1,4] rfl hn)) (yn (LB [_,_,_,_,_] [] [.ne VA VB,.nl (.a VC KC) VD,.nl (.a VE (.m 4 VD)) (.a VB KF)] (.nl (.a VE (.m 4 VC)) VA) [1,-1,4,1] rfl hl hc (Nat.le_add_of_sub_le (yM _)))))))
  ·rw [Wn (by rw [jr];exact hj),jr,show j - (n - 2)=0 by exact (jA [.nl (.a VA KC) VB,.ne (.a VC KC) VB,.ne (.a VD VC) VA] (.ne VD KA) [1,0,0,0] [1,1,-1,1] rfl hc (yn (lg0 hn rfl)) (yn hj))]
   show (im.drop (lo+4*n - 8)).length=4
   rw [Ws];exact (LA [_,_,_,_,_,_] [] [.ne VA VB,.ne (.a VB KF) (.a VC (.m 4 VD)),.ne (.a VE VF) VA,.ne (.a VF KI) (.a VC (.m 4 VD))] (.ne VE KF) [1,-1,-1,-1,1] [1,1,1,1,-1] rfl hl (yn (qM [.nl KJ VA] (.nl KF (.a VB (.m 4 VA))) [1,4] rfl hn)) (yn (LB [_,_,_,_,_] [] [.ne VA VB,.ne (.a VB KF) (.a VC (.m 4 VD)),.ne (.a VE KI) (.a VC (.m 4 VD))] (.nl VE VA) [1,-1,-1,1] rfl hl (yn (qM [.nl KJ VA] (.nl KF (.a VB (.m 4 VA))) [1,4] rfl hn)) (yn (qM [.nl KJ VA] (.nl KI (.a VB (.m 4 VA))) [1,4] rfl hn)))) (yn (qM [.nl KJ VA] (.nl KI (.a VB (.m 4 VA))) [1,4] rfl hn)))
theorem qo.wk (t:qp H₂ H H₁) (h:qo g f n op x y Q E ⟨loc,H₂⟩):qo g f n op x y Q E ⟨loc,H⟩:=Op.mk λv w hv hw A s hA hs=>h.h v w hv hw A s hA (hs.take t)
theorem Uc:((BN m).map λ(t:Nat)=>(1:Int)+((t:Nat):Int))++[(1:Int)+((m:Nat):Int)]=(BN (m+1)).map λ(t:Nat)=>(1:Int)+((t:Nat):Int):=by
 rw [HA,yE];rfl
section
variable {p:GP} {mg mb:Str->Option yr} (gk:GOk (g4 p) mg mb) {K:LK}
include gk
theorem Zl (hk:k<480) (ok:FOk (g4 p) f) (hh:f.hd=none) (hC:LC f K) (hE:qN p mg f) (u:f.cells.lookup 80=some clow) (J:f.cells.lookup 165=some cim) (B:zS K.n K.bads) (a9:j7 K.D.kd) (a8:K.lo=sh+2+2*x) (g:K.lo<=20) {ns:List Int} (hb:LsB (g4 p) K.sa (ns.map V.int)) (a7:ns.length<=1000)
   (hw:WF K.n K.D.kd K.bads (chs.map (·.2)) marks) (hL:qC (f.env.qual++"<lambda>") 405 L)
  (t:qp ((405,.many L)::(K.cz,.cell none)::(K.cw,.cell none)::(K.cs,.cell none)::(K.cr,.cell r)::(K.cn,.cell none)::(K.cm,.cell none)::(K.cl,.cell none)::(K.cd,.cell none)::(K.cj,.cell none)::(K.ct,.cell none)::(K.cp,.cell none)::(K.cb,.cell (some (.ref K.ba)))::(K.ctop,.cell (some (.int (kTp K.D.kd))))::(clow,.cell (some (.int (K.lo:Nat))))::(cim,.cell none)::(K.ba,.list (qd K.bads))::(K.ca,.list (qL chs))::(K.ma,.list (marks.map V.int))::qO chs) H R)
  (h: ∀loc H L',qC (f.env.qual++"<lambda>") 405 L'->(405,O.many L')∈H->Q (.ret (.bool true)) ⟨loc,H⟩):
  wSs (g4 p) f (k+3) (b_law.drop 19) Q EE ⟨[some (.ref K.sa),y1,some (.int K.D.kd),some (.int (K.n:Nat)),some (.int (sh:Nat)),y5,y6,y7,y8,some (.ref K.ca),some (.ref K.ma),none,none,none,none,none,none,none,none,none,none,none,none,none],H⟩:=by
 have n9:=B.n9
 have up: ∀{l H R:List (yu × O)},qp l H R->∀q∈l,q∈H:=λt q hq=>t.perm.mem_iff.mpr (yA _ hq)
 refine qe clow _ u (up t _ (pm 14 rfl)) ?_
 refine IP (.inl (qa (by decide) (by decide))) ?_
 refine Iz ?_
 refine IB ?_
 obtain ⟨m,hm⟩: ∃m:Nat,m=K.lo+4*K.n - 4:=(qx _ rfl)
 rw [show ((K.lo:Nat):Int)+4*((K.n:Nat):Int) - 4=((m:Nat):Int) by exact (jA [.ne VA VB,.ne (.a VB KF) (.a VC (.m 4 VD))] (.ze (.s (.a (.c VC) (.m 4 (.c VD))) UF) (.c VA)) [1,1,1] [1,-1,-1] rfl hm (yn (qM [.nl KJ VA] (.nl KF (.a VB (.m 4 VA))) [1,4] rfl n9.1)))]
 refine qb.wk t ?_
 refine I6 λrr=>?_
 refine jL.range gk ok hh (r:=rr) (.head _) (qa (by decide) (by decide)) (qa (qD [] (.zl (.n UV) (.c VA)) rfl) (zN [.nl VA KM,.nl VB KK,.ne VC VD,.ne (.a VD KF) (.a VA (.m 4 VB))] (.zt (.c VC) UV) [1,1,4,1,1] rfl g n9.2 hm (yn (qM [.nl KJ VA] (.nl KF (.a VB (.m 4 VA))) [1,4] rfl n9.1)))) rfl (by simp [xg]) (λj ys H'=>ys=((BN j).map λ(t:Nat)=>(1:Int)+((t:Nat):Int)).map V.int/\j<=m/\H'=(rr,O.rng 0 ((m:Nat):Int) 1)::(405,.many L)::(K.cz,.cell none)::(K.cw,.cell none)::(K.cs,.cell none)::(K.cr,.cell r)::(K.cn,.cell none)::(K.cm,.cell none)::(K.cl,.cell none)::(K.cd,.cell none)::(K.cj,.cell none)::(K.ct,.cell none)::(K.cp,.cell none)::(K.cb,.cell (some (.ref K.ba)))::(K.ctop,.cell (some (.int (kTp K.D.kd))))::(clow,.cell (some (.int (K.lo:Nat))))::(cim,.cell none)::(K.ba,.list (qd K.bads))::(K.ca,.list (qL chs))::(K.ma,.list (marks.map V.int))::qO chs) (λq m C j ys H' a6 Z hi=>?_) (λj ys H' hi=>?_) (qy rfl (WI _) rfl) λys H' Dm hi=>?_
 ·(refine qZ hi λa5 I a4=>?_;clear hi;subst a5;subst a4)
  refine Iz ?_
  refine zQ (qx _ rfl) ?_ (qq [.zt (.c VA) (.s (.c VB) UA)] (.nl (.a VA KB) VB) rfl Z) rfl
  rw [Qx,B1,Uc]
 ·(refine qZ hi λa3 I oo=>?_;clear hi;subst a3)
  rw [yq,yq,BC];exact (LB [_,_,_,_,_] [] [.nl VA KM,.nl VB KK,.ne VC VD,.nl VE VC,.ne (.a VD KF) (.a VA (.m 4 VB))] (.nl VE KT) [1,1,4,1,1,1] rfl g n9.2 hm I (yn (qM [.nl KJ VA] (.nl KF (.a VB (.m 4 VA))) [1,4] rfl n9.1)))
 ·(refine qZ hi λa2 I a1=>?_;clear hi;subst a2;subst a1)
  rw [show ((m:Int) - 0).toNat=m by exact (zH [.nl VA VB,.ze (.c VA) (.s (.c VB) UA)] (.ne VA VB) [1,0,-1] [1,1,0] rfl I (yz (qD [] (.zl UA (.s (.c VA) UA)) rfl)))]
  refine qb.bytes hh (.head _) (λx hx=>?_) (by rw [yq,BC];exact (zN [.nl VA KM,.nl VB KK,.ne VC VD,.ne (.a VD KF) (.a VA (.m 4 VB))] (.nl VC KT) [1,1,4,1,1] rfl g n9.2 hm (yn (qM [.nl KJ VA] (.nl KF (.a VB (.m 4 VA))) [1,4] rfl n9.1)))) ?_
  ·(refine qf (yD.mp hx) λt ht a0=>?_;subst a0)
   have:=List.mem_range.mp ht
   exact qa (qD [] (.zl UA (.a UB (.c VA))) rfl) (LB [_,_,_,_,_] [] [.nl VA KM,.nl VB KK,.ne VC VD,.nt VE VC,.ne (.a VD KF) (.a VA (.m 4 VB))] (.zt (.a UB (.c VE)) (.k 256)) [1,1,4,1,1,1] rfl g n9.2 hm this (yn (qM [.nl KJ VA] (.nl KF (.a VB (.m 4 VA))) [1,4] rfl n9.1)))
  have X:(jz ((BN m).map λ(t:Nat)=>(1:Int)+((t:Nat):Int))).length=m:=by unfold jz;rw [yq,yq,BC]
  generalize jz ((BN m).map λ(t:Nat)=>(1:Int)+((t:Nat):Int))=im at X |-
  refine zX cim _ _ J (wE (uq1 uq0)) ?_
  refine qe cim _ J (pm 17 rfl) ?_
  refine qe clow _ u (pm 16 rfl) ?_
  refine qv.takeYE (c:=im.take K.lo) (LB [_,_,_,_,_] [] [.nl VA KM,.nl VB KK,.ne VC VD,.ne VE VC,.ne (.a VD KF) (.a VA (.m 4 VB))] (.nl VE KT) [1,1,4,1,1,1] rfl g n9.2 hm X (yn (qM [.nl KJ VA] (.nl KF (.a VB (.m 4 VA))) [1,4] rfl n9.1))) rfl ?_
  intro l0
  refine IB ?_
  refine I6 λr2=>?_
  refine jL.range gk ok hh (r:=r2) (.head _) (qa (by decide) (by decide)) (qa (qD [] (.zl (.n UV) (.s (.c VA) UC)) rfl) (qD [.nl VA KK] (.zt (.s (.c VA) UC) UV) rfl n9.2)) rfl (by simp [xg,u,J]) (λj ys H'=>ys=(pcs im K.lo j).map V.bytes/\j<=K.n - 2/\∃R,qp ((l0,.list [.bytes (im.take K.lo),.bytes []])::(405,.many L)::(K.cz,.cell none)::(K.cw,.cell none)::(K.cs,.cell none)::(K.cr,.cell r)::(K.cn,.cell none)::(K.cm,.cell none)::(K.cl,.cell none)::(K.cd,.cell none)::(K.cj,.cell none)::(K.ct,.cell none)::(K.cp,.cell none)::(K.cb,.cell (some (.ref K.ba)))::(K.ctop,.cell (some (.int (kTp K.D.kd))))::(clow,.cell (some (.int (K.lo:Nat))))::(cim,.cell (some (.bytes im)))::(K.ba,.list (qd K.bads))::(K.ca,.list (qL chs))::(K.ma,.list (marks.map V.int))::qO chs) H' R) (λq m C j ys H' a6 Z hi=>?_) (λj ys H' hi=>?_) (qy rfl (WI _) (qx _ ((tk1 (tk3 (tk3 (tk3 (tk3 (tk3 (tk3 (tk3 (tk3 (tk3 (tk3 (tk3 (tk3 (tk3 (tk3 (tk3 (tk3 (tk3 (tk3 (tk3 (.under (.under (.under (.refl _))))))))))))))))))))))))))) λys H' D2 hi=>?_
  ·(refine qZ hi λz0 I z1=>?_;refine qA z1 λR t=>?_;clear hi;subst z0)
   refine qe cim _ ((show _=some ((f.cells.lookup 165).getD 0) from rfl).trans (by rw [J];rfl)) (up t _ (pm 16 rfl)) ?_
   refine qe clow _ ((show _=some ((f.cells.lookup 80).getD 0) from rfl).trans (by rw [u];rfl)) (up t _ (pm 15 rfl)) ?_
   refine IP (.inl (qa (by decide) (by decide))) ?_
   refine Iz ?_
   refine qe clow _ ((show _=some ((f.cells.lookup 80).getD 0) from rfl).trans (by rw [u];rfl)) (up t _ (pm 15 rfl)) ?_
   refine IP (.inl (qa (by decide) (by decide))) ?_
   refine Iz ?_
   refine Iz ?_
   refine qv.cutBE (c:=(im.drop (K.lo+4*j)).take 4) (K.lo+4*j) 4 (by exact (qq [] (.ze (.a (.c VA) (.m 4 (.a UA (.c VB)))) (.c (.a VA (.m 4 VB)))) rfl)) (by exact (qq [] (.ze (.a (.a (.c VA) (.m 4 (.a UA (.c VB)))) UF) (.a (.c (.a VA (.m 4 VB))) UF)) rfl)) (LB [_,_,_,_,_] [] [.nl VA KM,.nl VB KK,.ne VC VD,.ne VE VC,.ne (.a VD KF) (.a VA (.m 4 VB))] (.nl VE KT) [1,1,4,1,1,1] rfl g n9.2 hm X (yn (qM [.nl KJ VA] (.nl KF (.a VB (.m 4 VA))) [1,4] rfl n9.1))) rfl ?_
   refine zQ (qx _ rfl) ?_ (qQ [.zt (.c VA) (.s (.s (.c VB) UC) UA),.ne (.a VC KC) VB] (.nl (.a VA KB) VC) [1,1,-1] rfl Z (yn (lg0 n9.1 rfl))) (qx R t)
   rw [ZZ,yE];rfl
  ·(refine qZ hi λz2 I oo=>?_;clear hi;subst z2)
   rw [yq,jr];exact (qR [.nl VA KK,.nl VB VC,.ne (.a VC KC) VA] (.nl VB KT) rfl n9.2 I (yn (lg0 n9.1 rfl)))
  ·(refine qZ hi λz3 I z4=>?_;refine qA z4 λR t=>?_;clear hi;subst z3)
   rw [show ((K.n:Int) - 2 - 0).toNat=K.n - 2 by exact (xJ [.nl VA VB,.ze (.c VA) (.s (.s (.c VC) UC) UA),.ne (.a VB KC) VC] (.ne VA VB) [1,0,-1,1] [1,1,0,0] rfl I (yz (qD [.nl KJ VA] (.zl UA (.s (.s (.c VA) UC) UA)) rfl n9.1)) (yn (lg0 n9.1 rfl)))]
   refine qo.wk (.cons .head t) ?_
   refine qo.cat (xs:=[.bytes (im.take K.lo),.bytes []]) (ys:=(pcs im K.lo (K.n - 2)).map V.bytes) (pm 1 rfl) (pm 0 rfl) (by rw [yq,jr];show 2+_<=_;exact (qq [.nl VA KK,.ne (.a VB KC) VA] (.nl (.a KC VB) KT) rfl n9.2 (yn (lg0 n9.1 rfl)))) λpa=>?_
   refine zX K.cp _ _ hC.p (uq8 (uq4 (uq2 uq0))) ?_
   refine qe K.cp _ hC.p (pm 14 rfl) ?_
   refine II (pm 0 rfl) PySem.F.slot_list_append PySem.F.type_list_append ?_
   refine qe cim _ J (pm 18 rfl) ?_
   refine qe clow _ u (pm 17 rfl) ?_
   refine IP (.inl (qa (by decide) (by decide))) ?_
   refine Iz ?_
   refine IB ?_
   refine qv.dropY (qM [.nl KJ VA] (.zl UA (.s (.a (.c VB) (.m 4 (.c VA))) UI)) [1,4] rfl n9.1) (LB [_,_,_,_,_] [] [.nl VA KM,.nl VB KK,.ne VC VD,.ne VE VC,.ne (.a VD KF) (.a VA (.m 4 VB))] (.nl VE KT) [1,1,4,1,1,1] rfl g n9.2 hm X (yn (qM [.nl KJ VA] (.nl KF (.a VB (.m 4 VA))) [1,4] rfl n9.1))) ?_
   rw [show ((K.lo:Nat)+4*((K.n:Nat):Int) - 8:Int).toNat=K.lo+4*K.n - 8 by exact (jA [.ze (.c VA) (.s (.a (.c VB) (.m 4 (.c VC))) UI),.ne (.a VD KI) (.a VB (.m 4 VC))] (.ne VA VD) [1,-1,1] [1,1,-1] rfl (yz (qM [.nl KJ VA] (.zl UA (.s (.a (.c VB) (.m 4 (.c VA))) UI)) [1,4] rfl n9.1)) (yn (qM [.nl KJ VA] (.nl KI (.a VB (.m 4 VA))) [1,4] rfl n9.1)))]
   refine I4 (xs:=[.bytes (im.take K.lo),.bytes []]++(pcs im K.lo (K.n - 2)).map V.bytes) (uq0) (by rw [yS,yq,jr];show 2+_<=_;exact (qq [.nl VA KK,.ne (.a VB KC) VA] (.nl (.a KC VB) KT) rfl n9.2 (yn (lg0 n9.1 rfl)))) ?_
   have ep:([.bytes (im.take K.lo),.bytes []]++(pcs im K.lo (K.n - 2)).map V.bytes)++[V.bytes (im.drop (K.lo+4*K.n - 8))]=(pts im K.lo K.n).map V.bytes:=by
    unfold pts
    rw [yE,yE];rfl
   rw [ep]
   have hP:=uI (im:=im) (lo:=K.lo) (n:=K.n) (by exact n9.1) (xJ [.ne VA VB,.ne VC VA] (.ne VC VB) [1,-1,-1] [1,1,1] rfl hm X)
   have hF:=YW (im:=im) (lo:=K.lo) (n:=K.n) (by exact n9.1)
   exact vh gk hk ok hh (K:={K with pa:=pa}) ⟨hC.z,hC.w,hC.s,hC.r,hC.nw,hC.m,hC.l,hC.d,hC.j,hC.t,hC.p,hC.b,hC.top⟩ hE u J B a9 a8 g hb a7 hw (ps:=pts im K.lo K.n) (im:=im) hP hF.symm hL ((tk3 (tk3 (tk3 (tk3 (tk3 (tk3 (tk3 (tk3 (tk3 (tk3 (tk3 (tk3 (tk3 (tk3 (tk3 (tk3 (tk3 (tk3 (tk3 (tk0 (.under (.under (.refl _)))))))))))))))))))))))) h
end
section
variable {p:GP} {mg mb:Str->Option yr} (gk:GOk (g4 p) mg mb) {K:LK}
include gk
abbrev uU (K:LK) (ch:List Nat):Prop:=ch.Nodup/\(∀x∈ch,2<=x/\x<K.n/\x ∉ K.bads)
theorem vV (hk:k<480) (ok:FOk (g4 p) f) (hh:f.hd=none) (hC:LC f K) (hE:qN p mg f) (g:f.cells.lookup 80=some clow) (J:f.cells.lookup 165=some cim) (B:zS K.n K.bads) (I:j7 K.D.kd) (F:K.lo=sh+2+2*x) (u:K.lo<=20) {ns:List Int} (hb:LsB (g4 p) K.sa (ns.map V.int)) (C:ns.length<=1000)
   (Z:uU K ch) (X:ch.length<=100) (a0:k9 K.D.kd mark) (hL:qC (f.env.qual++"<lambda>") 405 L)
  (t:qp ((405,.many L)::(K.cz,.cell none)::(K.cw,.cell none)::(K.cs,.cell none)::(K.cr,.cell r)::(K.cn,.cell none)::(K.cm,.cell none)::(K.cl,.cell none)::(K.cd,.cell none)::(K.cj,.cell none)::(K.ct,.cell none)::(K.cp,.cell none)::(K.cb,.cell (some (.ref K.ba)))::(K.ctop,.cell (some (.int (kTp K.D.kd))))::(clow,.cell (some (.int (K.lo:Nat))))::(cim,.cell none)::(K.ba,.list (qd K.bads))::[(ac,.list (qd ch))]) H R)
  (h: ∀loc H L',qC (f.env.qual++"<lambda>") 405 L'->(405,O.many L')∈H->Q (.ret (.bool true)) ⟨loc,H⟩):
  wSs (g4 p) f (k+3) (b_law.drop 17) Q EE ⟨[some (.ref K.sa),y1,some (.int K.D.kd),some (.int (K.n:Nat)),some (.int (sh:Nat)),y5,some (.ref ac),y7,some (.int mark),none,none,none,none,none,none,none,none,none,none,none,none,none,none,none],H⟩:=by
 have n9:=B.n9
 refine qt.wk t ?_
 refine qt.list (xs:=qd ch) (pm 17 rfl) (by rw [yq];exact (ll0 X rfl)) ?_
 cases ch with
 |nil=>
  refine qX ?_
  intro ca
  refine qt.list (xs:=[]) (pm 18 rfl) (by decide) ?_
  refine qX ?_
  intro ma
  exact Zl gk hk ok hh (K:={K with ca:=ca,ma:=ma}) ⟨hC.z,hC.w,hC.s,hC.r,hC.nw,hC.m,hC.l,hC.d,hC.j,hC.t,hC.p,hC.b,hC.top⟩ hE g J B I F u hb C (chs:=[]) (marks:=[]) (WF.none _ _ _) hL ((tk2 (tk2 (tk2 (tk2 (tk2 (tk2 (tk2 (tk2 (tk2 (tk2 (tk2 (tk2 (tk2 (tk2 (tk2 (tk2 (tk2 (tk1 (.left _ _)))))))))))))))))))) h
 |cons c0 cr=>
  refine ke ?_
  intro ca
  refine qt.list (xs:=qd (c0::cr)) (pm 18 rfl) (by rw [yq];exact (ll0 X rfl)) ?_
  refine ke ?_
  intro ma
  have hw:WF K.n K.D.kd K.bads ([(ac,c0::cr)].map (·.2)) [mark]:=⟨rfl,λc hc=>by rw [yN.mp hc];exact List.cons_ne_nil _ _,λy hy=>by
   rw [yH,Dq,Wa,Bt,Wq] at hy
   exact Z.2 y hy,by
   rw [yH,Dq,Wa,Bt,Wq];exact Z.1,λm hm=>by rw [yN.mp hm];exact a0⟩
  exact Zl gk hk ok hh (K:={K with ca:=ca,ma:=ma}) ⟨hC.z,hC.w,hC.s,hC.r,hC.nw,hC.m,hC.l,hC.d,hC.j,hC.t,hC.p,hC.b,hC.top⟩ hE g J B I F u hb C (chs:=[(ac,c0::cr)]) (marks:=[mark]) hw hL (by
   show qp (_::_::_::_::_::_::_::_::_::_::_::_::_::_::_::_::_::_::_::[(ac,O.list (qd (c0::cr)))]) _ _
   exact (tk2 (tk2 (tk2 (tk2 (tk2 (tk2 (tk2 (tk2 (tk2 (tk2 (tk2 (tk2 (tk2 (tk2 (tk2 (tk2 (tk2 (tk1 (.refl _)))))))))))))))))))) h
theorem Y3 (hk:k<480) (ok:FOk (g4 p) f) (hh:f.hd=none) (hC:LC f K) (hE:qN p mg f) (g:f.cells.lookup 80=some clow) (X:f.cells.lookup 165=some cim) (B:zS K.n K.bads) (J:j7 K.D.kd) (I:K.lo=sh+2+2*x) (u:K.lo<=20) {ns:List Int} (hb:LsB (g4 p) K.sa (ns.map V.int)) (C:ns.length<=1000)
   (a0:uU K ch) (Z:ch.length<=100) (hL:qC (f.env.qual++"<lambda>") 405 L)
  (t:qp ((405,.many L)::(K.cz,.cell none)::(K.cw,.cell none)::(K.cs,.cell none)::(K.cr,.cell r)::(K.cn,.cell none)::(K.cm,.cell none)::(K.cl,.cell none)::(K.cd,.cell none)::(K.cj,.cell none)::(K.ct,.cell none)::(K.cp,.cell none)::(K.cb,.cell (some (.ref K.ba)))::(K.ctop,.cell (some (.int (kTp K.D.kd))))::(clow,.cell (some (.int (K.lo:Nat))))::(cim,.cell none)::(K.ba,.list (qd K.bads))::[(ac,.list (qd ch))]) H R)
  (h: ∀loc H L',qC (f.env.qual++"<lambda>") 405 L'->(405,O.many L')∈H->Q (.ret (.bool true)) ⟨loc,H⟩):
  wSs (g4 p) f (k+3) (b_law.drop 15) Q EE ⟨[some (.ref K.sa),some (.int v),some (.int K.D.kd),some (.int (K.n:Nat)),some (.int (sh:Nat)),y5,some (.ref ac),y7,none,none,none,none,none,none,none,none,none,none,none,none,none,none,none,none],H⟩:=by
 have up: ∀{l H R:List (yu × O)},qp l H R->∀q∈l,q∈H:=λt q hq=>t.perm.mem_iff.mpr (yA _ hq)
 refine qo.pow (by decide) (by decide) ?_
 refine IP (.inl (qa (by decide) (by decide))) ?_
 refine Ma (by decide) (.inl (by decide)) ?_
 generalize v / (5*16 ^ (4:Int).toNat)=v'
 have cont:=λmark F=>vV gk hk ok hh hC hE g X B J I u hb C a0 Z (mark:=mark) F hL (y1:=some (.int v')) (y5:=y5) (y7:=y7) (EE:=EE) t h
 refine Ix (H9 (qa (λe=>qX ?_) (λe=>?_)))
 ·refine qe K.ctop _ hC.top (up t _ (pm 13 rfl)) ?_
  refine Iv (by decide) ?_
  refine IB ?_
  exact cont _ (.inr (qa (QH [.zt ZA UI] (.zl (.s ZB UH) (.s ZB ZA)) rfl (yZ _ (by decide))) (QH [.zl UA ZA] (.zl (.s ZB ZA) ZB) rfl (Wj _ (by decide)))))
 ·refine Iv (by decide) ?_
  refine Ix (H9 (qa (λh8=>qX ?_) (λh8=>ke ?_)))
  ·refine qe K.ctop _ hC.top (up t _ (pm 13 rfl)) ?_
   refine Iv (by decide) ?_
   refine IB ?_
   exact cont _ (.inr (qa (QH [.zt ZA UI] (.zl (.s ZB UH) (.s ZB ZA)) rfl (yZ _ (by decide))) (QH [.zl UA ZA] (.zl (.s ZB ZA) ZB) rfl (Wj _ (by decide)))))
  ·exact cont _ (.inl (qa (of_decide_eq_true e) rfl))
end
noncomputable def rf (b m:Nat):List Nat:=(HI 2 m).filter λc=> !decide (((c:Nat):Int)=((b:Nat):Int))
theorem JN:rf b (m+1)=if (!decide (((2+m:Nat):Int)=((b:Nat):Int)))=true then rf b m++[2+m] else rf b m:=by
 unfold rf
 rw [HS,FU,List.filter_cons,List.filter_nil]
 split
 ·rfl
 ·rw [Wq]
theorem ya (h:c∈rf b m):2<=c/\c<2+m/\c≠b:=by
 refine qc (BY.mp h) λh1 h2=>?_
 refine qc (Dl.mp h1) λh3 h4=>?_
 refine qy h3 h4 (λe=>?_)
 subst e
 simp at h2
theorem Yz:(rf b m).Nodup:=H3.nodup List.nodup_range'
theorem ud:(rf b m).length<=m:=by
 refine yX (Fi _ _) ?_
 rw [FV];exact yM _
theorem uk: ∀{m:Nat},m<=(rf b m).length+(if b<2+m then 1 else 0)
 |0=>WI _
 |m+1=>by
  have ih:=uk (b:=b) (m:=m)
  rw [JN]
  by_cases h:2+m=b
  ·rw [if_neg (by simp;exact (zH [.ne (.a KC VA) VB] (.ze (.a UC (.c VA)) (.c VB)) [1,-1] [1,1] rfl h))]
   rw [if_neg (by exact (BK.mpr (qq [.ne (.a KC VA) VB] (.nl (.a KC VA) VB) rfl h)))] at ih
   rw [if_pos (by exact (qM [.ne (.a KC VA) VB] (.nt VB (.a KC (.a VA KB))) [1,-1] rfl h))];exact (qq [.nl VA (.a VB KA)] (.nl (.a VA KB) (.a VB KB)) rfl ih)
  ·rw [if_pos (by simp;exact (Or.elim (Wh h) (λw1=>(λz0=>(qM [.nt (.a KC VA) VB,.ze (.a UC (.c VA)) (.c VB)] .ff [0,1,-1] rfl w1 z0))) λw1=>(λz0=>(qM [.nt VA (.a KC VB),.ze (.a UC (.c VB)) (.c VA)] .ff [0,1,1] rfl w1 z0)))),yS,List.length_singleton]
   by_cases h2:b<2+m
   ·rw [if_pos h2] at ih
    rw [if_pos (by exact (qq [.nt VA (.a KC VB)] (.nt VA (.a KC (.a VB KB))) rfl h2))];exact (qq [.nl VA (.a VB KB)] (.nl (.a VA KB) (.a (.a VB KB) KB)) rfl ih)
   ·rw [if_neg h2] at ih
    exact (qR [.nl VA (.a VB KA)] (.nl (.a VA KB) (.a (.a VB KB) VC)) rfl ih)
section
variable {p:GP} {mg mb:Str->Option yr} (gk:GOk (g4 p) mg mb) {K:LK}
include gk
theorem J3 (hk:k<480) (ok:FOk (g4 p) f) (hh:f.hd=none) (hC:LC f K) (hE:qN p mg f) (Z:f.cells.lookup 80=some clow) (af:f.cells.lookup 165=some cim) (B:zS K.n K.bads) (ab:j7 K.D.kd) (aa:K.lo=sh+2+2*x) (a0:K.lo<=20) {ns:List Int} (hb:LsB (g4 p) K.sa (ns.map V.int)) (a8:ns.length<=1000)
   (aj:K.bads=[b0,K.n - 1]) (hL:qC (f.env.qual++"<lambda>") 405 L)
  (t:qp ((405,.many L)::(K.cz,.cell none)::(K.cw,.cell none)::(K.cs,.cell none)::(K.cr,.cell (some (.ref rr)))::(K.cn,.cell none)::(K.cm,.cell none)::(K.cl,.cell none)::(K.cd,.cell none)::(K.cj,.cell none)::(K.ct,.cell none)::(K.cp,.cell none)::(K.cb,.cell (some (.ref K.ba)))::(K.ctop,.cell (some (.int (kTp K.D.kd))))::(clow,.cell (some (.int (K.lo:Nat))))::(cim,.cell none)::(K.ba,.list (qd K.bads))::[(rr,.list (qd (rf b0 (K.n - 3))))]) H R)
  (h: ∀loc H L',qC (f.env.qual++"<lambda>") 405 L'->(405,O.many L')∈H->Q (.ret (.bool true)) ⟨loc,H⟩):
  wSs (g4 p) f (k+3) (b_law.drop 13) Q EE ⟨[some (.ref K.sa),some (.int v),some (.int K.D.kd),some (.int (K.n:Nat)),some (.int (sh:Nat)),y5,none,none,none,none,none,none,none,none,none,none,none,none,none,none,none,none,none,none],H⟩:=by
 have n9:=B.n9
 have a3: ∀c∈rf b0 (K.n - 3),2<=c/\c<K.n/\c ∉ K.bads:=λc hc=>by
  refine qZ (ya hc) λh1 h2 h3=>?_
  refine qy h1 (qR [.nt VA (.a KC VB),.ne (.a VB KD) VC] (.nt VA VC) rfl h2 (yn (lg0 n9.1 rfl))) (λh=>?_)
  rw [aj] at h
  simp only [yy,yI,or_false] at h
  exact (Or.elim (Wh h3) (λw8=>(Or.elim h (λw9=>(qM [.nt VA VB,.ne VA VB] .ff [0,1,-1] rfl w8 w9)) λw9=>(zN [.nt VA (.a KC VB),.ne VA VC,.ne (.a VB KD) VD,.ne (.a VC KB) VD] .ff [0,1,-1,1,-1] rfl h2 w9 (yn (lg0 n9.1 rfl)) (yn (lg0 n9.1 rfl))))) λw8=>(Or.elim h (λw9=>(qM [.nt VA VB,.ne VB VA] .ff [0,1,1] rfl w8 w9)) λw9=>(zN [.nt VA (.a KC VB),.ne VA VC,.ne (.a VB KD) VD,.ne (.a VC KB) VD] .ff [0,1,-1,1,-1] rfl h2 w9 (yn (lg0 n9.1 rfl)) (yn (lg0 n9.1 rfl)))))
 have J:5<=(rf b0 (K.n - 3)).length:=by
  have:=uk (b:=b0) (m:=K.n - 3)
  split at this<;>(first|lia|omega)
 have X:(rf b0 (K.n - 3)).length<=20:=yX ud (qq [.nl VA KK,.ne (.a VB KD) VA] (.nl VB KM) rfl n9.2 (yn (lg0 n9.1 rfl)))
 have a2:(rf b0 (K.n - 3)).Nodup:=Yz
 generalize rf b0 (K.n - 3)=RM at t a3 J X a2
 intro ac
 refine Iv (by decide) ?_
 refine qb.wk (.cons .head t) ?_
 refine I6 λrg=>?_
 have ak:Builtin.Int.intBits 16=5:=by decide
 refine zC.range gk ok hh (λj σ=>∃(ch rm:List Nat) (y7:Option V),ch.length=j/\(ch++rm).Perm RM/\j<=4/\σ=⟨[some (.ref K.sa),some (.int v),some (.int K.D.kd),some (.int (K.n:Nat)),some (.int (sh:Nat)),y5,some (.ref ac),y7,none,none,none,none,none,none,none,none,none,none,none,none,none,none,none,none],(rg,.rng 0 (v % 5) 1)::(ac,.list (qd ch))::(405,.many L)::(K.cz,.cell none)::(K.cw,.cell none)::(K.cs,.cell none)::(K.cr,.cell (some (.ref rr)))::(K.cn,.cell none)::(K.cm,.cell none)::(K.cl,.cell none)::(K.cd,.cell none)::(K.cj,.cell none)::(K.ct,.cell none)::(K.cp,.cell none)::(K.cb,.cell (some (.ref K.ba)))::(K.ctop,.cell (some (.int (kTp K.D.kd))))::(clow,.cell (some (.int (K.lo:Nat))))::(cim,.cell none)::(K.ba,.list (qd K.bads))::[(rr,.list (qd rm))]⟩) (.head _) (qa (by decide) (by decide)) (qa (za [.zl UA ZA] (.zl (.n UV) ZA) rfl (Wj _ (by decide))) (za [.zt ZA UG] (.zt ZA UV) rfl (yZ _ (by decide)))) (xi [] RM none rfl (.refl _) (by decide) rfl) (λq j σ al hj hi=>?_) (λσ hi=>?_)
 ·(refine xF hi λch rm y7 z5 I C z6=>?_;clear hi;subst z5;subst z6)
  have g:=I.length_eq
  rw [yS] at g
  have ae:ch.length<4:=by exact (Xm [.zt (.c VA) (.s ZA UA),.zt ZA UG] (.nt VA KF) rfl hj (yZ _ (by decide)))
  dsimp only [wTg]
  refine II (xs:=qd ch) (pm 1 rfl) PySem.F.slot_list_append PySem.F.type_list_append ?_
  refine qe K.cr _ hC.at.r (pm 6 rfl) ?_
  refine II (xs:=qd rm) (pm 19 rfl) PySem.F.slot_list_pop PySem.F.type_list_pop ?_
  refine IQ (by decide) (.inl (by decide)) ?_
  refine qo.pow (qD [] (.zl UA (.a UA (.c VA))) rfl) (by rw [ak,show ((2:Int) ^ 27)=134217728 by decide];show (5:Int)*_<=_;exact (zI [.nl VA KF] (.zl (.m 5 (.a UA (.c VA))) (.k 134217728)) [1,5] rfl C)) ?_
  have a4: ∃pw:Int,(16:Int) ^ ((0:Int)+((ch.length:Nat):Int)).toNat=pw/\0<pw/\pw<1000000:=by
   refine qj _ rfl ?_
   rw [show ((0:Int)+((ch.length:Nat):Int)).toNat=ch.length by exact (zH [.ze (.c VA) (.a UA (.c VB))] (.ne VA VB) [1,-1] [1,1] rfl (yz (qD [] (.zl UA (.a UA (.c VA))) rfl)))]
   have:ch.length=0\/ch.length=1\/ch.length=2\/ch.length=3:=by (first|lia|omega)
   rcases this with e|e|e|e<;>rw [e]<;>decide
  refine zk a4 λpw a5 a7 a6=>?_
  rw [a5]
  refine IQ a7 (.inl (za [.zt ZA US] (.zt ZA UU) rfl a6)) ?_
  refine Iv (by decide) ?_
  refine qe K.cr _ hC.at.r (pm 6 rfl) ?_
  refine IH (xs:=qd rm) (pm 19 rfl) (by rw [yq];exact (qR [.nl VA KM,.ne (.a VB VC) VA] (.nt VC KU) rfl X g)) ?_
  rw [yq]
  refine Iv (qQ [.nl KG VA,.nl VB KF,.ne (.a VB VC) VA] (.zt UA (.c VC)) [1,1,1,-1] rfl J C g) ?_
  generalize v / 5 / pw % 16=u
  obtain ⟨iN,a1⟩: ∃iN:Nat,u % ((rm.length:Nat):Int)=(iN:Int):=(qx _ ((yz (Wj _ (by exact (λz0=>(qQ [.nl KG VA,.nl VB KF,.ne (.a VB VC) VA,.ze (.c VC) UA] .ff [0,1,1,-1,1] rfl J C g z0))))).symm))
  have ag:iN<rm.length:=by
   have:=yZ u (show (0:Int)<(rm.length:Nat) by exact (qQ [.nl KG VA,.nl VB KF,.ne (.a VB VC) VA] (.zt UA (.c VC)) [1,1,1,-1] rfl J C g))
   exact (wF [.ze ZA (.c VA),.zt ZA (.c VB)] (.nt VA VB) [1,-1,1] rfl a1 this)
  rw [a1]
  refine Xs (jM ag) λA c B' eA hA=>?_
  have eR:qd rm=qd A++V.int (c:Nat)::qd B':=by rw [eA];exact yE ..
  refine qb.popAt (xs:=qd A) (y:= .int (c:Nat)) (zs:=qd B') (by rw [eR];exact wE (uq2 (uq1 uq0))) (by rw [yq,hA]) (by rw [<- eR,yq];exact (qR [.nl VA KM,.ne (.a VB VC) VA] (.nl VC KT) rfl X g)) ?_
  refine I4 (xs:=qd ch) (uq1 uq0) (by rw [yq];exact (ll0 C rfl)) ?_
  rw [xk]
  dsimp only [nxt,wSs,turn]
  refine Wk.of (xi (ch++[c]) (A++B') (some (.int (0+(ch.length:Nat)))) (by rw [yS];rfl) ?_ (lm1 ae rfl) ?_)
  ·refine List.Perm.trans ?_ I
   rw [eA,yG]
   exact List.Perm.append_left ch (show (c::(A++B')).Perm (A++c::B') from Bd.symm)
  ·rw [show qd (A++B')=qd A++qd B' from yE ..];rfl
 ·(refine xF hi λch rm y7 ai I C z7=>?_;clear hi;subst z7)
  have a9:=I.nodup_iff.mpr a2
  have ah:uU K ch:=(qa ((Wm.mp a9).1) (λx hx=>a3 x (I.mem_iff.mp (yA _ hx))))
  exact Y3 gk hk ok hh hC hE Z af B ab aa a0 hb a8 ah (qq [.ne VA VB,.nl VB KF] (.nl VA KO) rfl ai C) (ac:=ac) hL ((tk2 (tk2 (tk2 (tk2 (tk2 (tk2 (tk2 (tk2 (tk2 (tk2 (tk2 (tk2 (tk2 (tk2 (tk2 (tk2 (tk2 (tk1 .nil))))))))))))))))))) h
theorem vj (hk:k<480) (ok:FOk (g4 p) f) (hh:f.hd=none) (hC:LC f K) (hE:qN p mg f) (u:f.cells.lookup 80=some clow) (a3:f.cells.lookup 165=some cim) (B:zS K.n K.bads) (a2:j7 K.D.kd) (a1:K.lo=sh+2+2*x) (F:K.lo<=20) {ns:List Int} (hb:LsB (g4 p) K.sa (ns.map V.int)) (a0:ns.length<=1000)
   (I:K.bads=[b0,K.n - 1]) (hL:qC (f.env.qual++"<lambda>") 405 L)
  (t:qp ((405,.many L)::(K.cz,.cell none)::(K.cw,.cell none)::(K.cs,.cell none)::(K.cr,.cell none)::(K.cn,.cell none)::(K.cm,.cell none)::(K.cl,.cell none)::(K.cd,.cell none)::(K.cj,.cell none)::(K.ct,.cell none)::(K.cp,.cell none)::(K.cb,.cell (some (.ref K.ba)))::(K.ctop,.cell (some (.int (kTp K.D.kd))))::(clow,.cell (some (.int (K.lo:Nat))))::(cim,.cell none)::[(K.ba,.list (qd K.bads))]) H R)
  (h: ∀loc H L',qC (f.env.qual++"<lambda>") 405 L'->(405,O.many L')∈H->Q (.ret (.bool true)) ⟨loc,H⟩):
  wSs (g4 p) f (k+3) (b_law.drop 12) Q EE ⟨[some (.ref K.sa),some (.int v),some (.int K.D.kd),some (.int (K.n:Nat)),some (.int (sh:Nat)),y5,none,none,none,none,none,none,none,none,none,none,none,none,none,none,none,none,none,none],H⟩:=by
 have n9:=B.n9
 refine IB ?_
 refine qb.wk t ?_
 refine IV λrr=>?_
 refine ju.range gk ok hh (r:=rr) (.head _) (qa (by decide) (by decide)) (qa (qD [] (.zl (.n UV) (.s (.c VA) UB)) rfl) (qD [.nl VA KK] (.zt (.s (.c VA) UB) UV) rfl n9.2)) rfl (by simp [xg,hC.b]) (λj ys H'=>ys=qd (rf b0 j)/\j<=K.n/\H'=(rr,O.rng 2 (((K.n:Nat):Int) - 1) 1)::(405,.many L)::(K.cz,.cell none)::(K.cw,.cell none)::(K.cs,.cell none)::(K.cr,.cell none)::(K.cn,.cell none)::(K.cm,.cell none)::(K.cl,.cell none)::(K.cd,.cell none)::(K.cj,.cell none)::(K.ct,.cell none)::(K.cp,.cell none)::(K.cb,.cell (some (.ref K.ba)))::(K.ctop,.cell (some (.int (kTp K.D.kd))))::(clow,.cell (some (.int (K.lo:Nat))))::(cim,.cell none)::[(K.ba,.list (qd K.bads))]) (λq m C j ys H' a4 hj hi=>?_) (λj ys H' hi=>?_) (qy rfl (WI _) rfl) λys H' Dm hi=>?_
 ·(refine qZ hi λz8 g z9=>?_;clear hi;subst z8;subst z9)
  refine qe K.cb _ ((show _=some ((f.cells.lookup 254).getD 0) from rfl).trans (by rw [hC.b];rfl)) (pm 13 rfl) ?_
  refine Ii (xs:=qd K.bads) (x:= .int (b0:Nat)) (pm 17 rfl) (by decide) (by decide) (by rw [I];rfl) ?_
  refine qm.ne ?_
  have es:=JN (b:=b0) (m:=j)
  rw [show (2:Int)+(j:Int)=((2+j:Nat):Int) by exact (qD [] (.ze (.a UC (.c VA)) (.c (.a KC VA))) rfl)]
  refine H9 (qa (λe=>?_) (λe=>?_))
  ·rw [e,if_pos rfl] at es
   exact zQ (qx _ rfl) (by rw [es];exact xk) (qq [.zt (.c VA) (.s (.s (.c VB) UB) UC)] (.nl (.a VA KB) VB) rfl hj) rfl
  ·rw [e,if_neg (by decide)] at es
   exact zQ (qx _ rfl) (by rw [es]) (qq [.zt (.c VA) (.s (.s (.c VB) UB) UC)] (.nl (.a VA KB) VB) rfl hj) rfl
 ·(refine qZ hi λZ g oo=>?_;clear hi;subst Z)
  rw [yq];exact yX ud (ls1 n9.2 g rfl)
 ·(refine qZ hi λX g J=>?_;clear hi;subst X;subst J)
  rw [show ((K.n:Int) - 1 - 2).toNat=K.n - 3 by exact (xJ [.ze (.c VA) (.s (.s (.c VB) UB) UC),.ne (.a VC KD) VB] (.ne VA VC) [1,-1,1] [1,1,-1] rfl (yz (qD [.nl KJ VA] (.zl UA (.s (.s (.c VA) UB) UC)) rfl n9.1)) (yn (lg0 n9.1 rfl)))]
  refine zX K.cr _ _ hC.r (uq4 (uq2 uq0)) ?_
  exact J3 gk hk ok hh hC hE u a3 B a2 a1 F hb a0 I hL ((tk2 (tk2 (tk2 (tk2 (tk2 (tk2 (tk2 (tk2 (tk2 (tk2 (tk2 (tk2 (tk2 (tk2 (tk2 (tk2 (tk2 (.left _ _))))))))))))))))))) h
end
section
variable {g:G} {f:Fx} {n:Nat} {σ:St} {Q:QV} {E:QE} {i:Int}
theorem qo.modN (j:Nat) (hj:0<j) (h: ∀z:Nat,z<j->Q (.int (z:Nat)) σ):qo g f n .Mod (.int i) (.int (j:Nat)) Q E σ:=by
 obtain ⟨z,hz⟩:=Ht (Wj i (b:=(j:Int)) (λz0=>(zI [.nt KA VA,.ze (.c VA) UA] .ff [0,1,1] rfl hj z0)))
 have hl:=yZ i (b:=(j:Int)) (WX.mpr hj)
 refine Iv (WX.mpr hj) ?_
 rw [hz]
 exact h z (wF [.ze ZA (.c VA),.zt ZA (.c VB)] (.nt VA VB) [1,-1,1] rfl hz hl)
end
theorem yh {v:Int}: ∃kd,j7 kd/\[V.int 12,V.int 16,V.int 32][(v % 3).toNat]? =some (.int kd)/\[V.int 4095,V.int 65535,V.int 268435455][(v % 3).toNat]? =some (.int (kTp kd)):=by
 rcases (show v % 3=0\/v % 3=1\/v % 3=2 by (first|lia|omega)) with h|h|h<;>rw [h]
 ·exact qK 12 (.inl rfl) rfl rfl
 ·exact qK 16 (.inr (.inl rfl)) rfl rfl
 ·exact qK 32 (.inr (.inr rfl)) rfl rfl
section
variable {p:GP} {mg mb:Str->Option yr} (gk:GOk (g4 p) mg mb) {K:LK}
include gk
theorem vT (hk:k<480) (ok:FOk (g4 p) f) (hh:f.hd=none) (hC:LC f K) (hE:qN p mg f) (g:f.cells.lookup 80=some clow) (J:f.cells.lookup 165=some cim) {ns:List Int} (hb:LsB (g4 p) K.sa (ns.map V.int)) (C:ns.length<=1000) (hL:qC (f.env.qual++"<lambda>") 405 L)
  (t:qp ((405,.many L)::(K.cz,.cell none)::(K.cw,.cell none)::(K.cs,.cell none)::(K.cr,.cell none)::(K.cn,.cell none)::(K.cm,.cell none)::(K.cl,.cell none)::(K.cd,.cell none)::(K.cj,.cell none)::(K.ct,.cell none)::(K.cp,.cell none)::(K.cb,.cell none)::(K.ctop,.cell none)::(clow,.cell none)::[(cim,.cell none)]) H R)
  (h: ∀loc H L',qC (f.env.qual++"<lambda>") 405 L'->(405,O.many L')∈H->Q (.ret (.bool true)) ⟨loc,H⟩):
  wSs (g4 p) f (k+3) (b_law.drop 1) Q EE ⟨[some (.ref K.sa),some (.int v),none,none,none,none,none,none,none,none,none,none,none,none,none,none,none,none,none,none,none,none,none,none],H⟩:=by
 refine zk (yh (v:=v)) λkd I e1 e2=>?_
 intro t1
 refine Iv (by decide) ?_
 refine qG.tup (xs:=[V.int 12,V.int 16,V.int 32]) (.head _) (za [.zl UA ZA] (.zl UA ZA) rfl (Wj _ (by decide))) (za [.zt ZA UD] (.zt ZA UU) rfl (yZ _ (by decide))) e1 ?_
 intro t2
 refine qo.wk (.cons .head t.under) ?_
 refine Iv (by decide) ?_
 refine qG.tup (xs:=[V.int 4095,V.int 65535,V.int 268435455]) (.head _) (za [.zl UA ZA] (.zl UA ZA) rfl (Wj _ (by decide))) (za [.zt ZA UD] (.zt ZA UU) rfl (yZ _ (by decide))) e2 ?_
 refine zX K.ctop _ _ hC.top (uq8 (uq4 (uq2 uq0))) ?_
 refine Ma (by decide) (.inl (by decide)) ?_
 generalize v / 3=v1
 refine qo.modN 5 (by decide) λnn F=>?_
 refine Iz ?_
 refine Ma (by decide) (.inl (by decide)) ?_
 generalize v1 / 5=v2
 refine qo.modN 3 (by decide) λsh hsh=>?_
 refine Ma (by decide) (.inl (by decide)) ?_
 generalize v2 / 3=v3
 refine Iz ?_
 refine qo.modN 3 (by decide) λx hx=>?_
 refine IP (.inl (qa (by decide) (by decide))) ?_
 refine Iz ?_
 refine zX clow _ _ g (uq8 (uq4 (uq2 (uq1 uq0)))) ?_
 refine Ma (by decide) (.inl (by decide)) ?_
 generalize v3 / 3=v4
 obtain ⟨n,hn⟩: ∃n:Nat,n=9+nn:=(qx _ rfl)
 rw [show (9:Int)+((nn:Nat):Int)=((n:Nat):Int) by exact (zH [.ne VA (.a KJ VB)] (.ze (.a UJ (.c VB)) (.c VA)) [1,1] [1,-1] rfl hn)]
 refine Iv (by decide) ?_
 refine IB ?_
 rw [show ((n:Nat):Int) - 2=((n - 2:Nat):Int) by exact (zH [.ne (.a VA KC) VB] (.ze (.s (.c VB) UC) (.c VA)) [1,1] [1,-1] rfl (yn (qM [.ne VA (.a KJ VB)] (.nl KC VA) [1,-1] rfl hn)))]
 refine qo.modN (n - 2) (qQ [.ne VA (.a KJ VB),.ne (.a VC KC) VA] (.nt KA VC) [1,-1,-1] rfl hn (yn (qM [.ne VA (.a KJ VB)] (.nl KC VA) [1,-1] rfl hn))) λb X=>?_
 refine Iz ?_
 refine IB ?_
 intro ba
 refine zX K.cb _ _ hC.b (uq8 (uq4 (uq2 uq0))) ?_
 refine Ma (by decide) (.inl (by decide)) ?_
 generalize v4 / 16=v5
 obtain ⟨lo,u⟩: ∃lo:Nat,lo=sh+2+2*x:=(qx _ rfl)
 rw [show ((sh:Nat):Int)+2+2*((x:Nat):Int)=((lo:Nat):Int) by exact (xJ [.ne VA (.a (.a VB KC) (.m 2 VC))] (.ze (.a (.a (.c VB) UC) (.m 2 (.c VC))) (.c VA)) [1,1] [1,-1] rfl u),show ((n:Nat):Int) - 1=((n - 1:Nat):Int) by exact (zH [.ne (.a VA KB) VB] (.ze (.s (.c VB) UB) (.c VA)) [1,1] [1,-1] rfl (yn (qM [.ne VA (.a KJ VB)] (.nl KB VA) [1,-1] rfl hn))),show (2:Int)+((b:Nat):Int)=((2+b:Nat):Int) by exact (qD [] (.ze (.a UC (.c VA)) (.c (.a KC VA))) rfl)]
 have B:zS n [2+b,n - 1]:=⟨by exact ⟨(qM [.ne VA (.a KJ VB)] (.nl KJ VA) [1,-1] rfl hn),(qq [.nt VA KG,.ne VB (.a KJ VA)] (.nl VB KK) rfl F hn)⟩,λc hc=>by
  simp only [yy,yI,or_false] at hc
  exact (Or.elim hc (λw8=>⟨(qM [.ne VA (.a KC VB)] (.nl KC VA) [1,-1] rfl w8),(kr [.nt VA VB,.ne VC (.a KC VA),.ne (.a VB KC) VD] (.nt VC VD) rfl X w8 (yn (qM [.ne VA (.a KJ VB)] (.nl KC VA) [1,-1] rfl hn)))⟩) λw8=>⟨(zN [.ne VA (.a KJ VB),.ne VC VD,.ne (.a VD KB) VA] (.nl KC VC) [1,-1,-1,-1] rfl hn w8 (yn (qM [.ne VA (.a KJ VB)] (.nl KB VA) [1,-1] rfl hn))),(qR [.ne VA VB,.ne (.a VB KB) VC] (.nt VA VC) rfl w8 (yn (qM [.ne VA (.a KJ VB)] (.nl KB VA) [1,-1] rfl hn)))⟩),.tail _ (.head _),rfl⟩
 exact vj gk hk ok hh (K:={K with n:=n,lo:=lo,bads:=[2+b,n - 1],ba:=ba,D:={K.D with kd:=kd}}) ⟨hC.z,hC.w,hC.s,hC.r,hC.nw,hC.m,hC.l,hC.d,hC.j,hC.t,hC.p,hC.b,hC.top⟩ hE g J B I u (show lo<=20 by exact (qQ [.nt VA KD,.nt VB KD,.ne VC (.a (.a VA KC) (.m 2 VB))] (.nl VC KM) [1,1,2,1] rfl hsh hx u)) hb C rfl hL ((tk2 (tk2 (tk2 (tk2 (tk2 (tk2 (tk2 (tk2 (tk2 (tk2 (tk2 (tk2 (tk2 (tk2 (tk2 (tk2 (.left _ _)))))))))))))))))) h
end
theorem JB: ∀{l:List α},x∈l->Sub [x] l
 |a::r,h=>by
  rcases yy.mp h with rfl|h
  ·exact .keep (.none _)
  ·exact .drop (JB h)
theorem kb {l:List yu} (h:l.length=n+1): ∃a r,r.length=n/\l=a::r:=by
 cases l with
 |nil=>cases h
 |cons a r=>exact qU a r (Nat.succ.inj h) rfl
theorem of15 {l:List yu} (h:l.length=15): ∃a1 a2 a3 a4 a5 a6 a7 a8 a9 J I F C u g,l=[a1,a2,a3,a4,a5,a6,a7,a8,a9,J,I,F,C,u,g]:=by
 refine qB (kb h) λa1 l0 h0 q0=>?_
 refine qB (kb h0) λa2 l1 h1 q1=>?_
 refine qB (kb h1) λa3 l2 h2 q2=>?_
 refine qB (kb h2) λa4 l3 h3 q3=>?_
 refine qB (kb h3) λa5 l4 h4 q4=>?_
 refine qB (kb h4) λa6 l5 h5 q5=>?_
 refine qB (kb h5) λa7 l6 h6 q6=>?_
 refine qB (kb h6) λa8 l7 h7 q7=>?_
 refine qB (kb h7) λa9 l8 h8 q8=>?_
 refine qB (kb h8) λJ l9 h9 q9=>?_
 refine qB (kb h9) λI am ah ab=>?_
 refine qB (kb ah) λF al ag aa=>?_
 refine qB (kb ag) λC ak af a0=>?_
 refine qB (kb af) λu aj ae Z=>?_
 refine qB (kb ae) λg ai ac X=>?_
 exact qW _ _ _ (qW _ _ _ (qW _ _ _ (qW _ _ _ (qW _ _ _ (by rw [q0,q1,q2,q3,q4,q5,q6,q7,q8,q9,ab,aa,a0,Z,X,List.eq_nil_of_length_eq_zero ac])))))
section
variable {p:GP} {mg mb:Str->Option yr} (gk:GOk (g4 p) mg mb)
include gk
theorem uz (hk:k<480) (hd0:hd=none) {ns:List Int} (hb:LsB (g4 p) sa (ns.map V.int)) (a0:ns.length<=1000) (C:CodeHd p.base 407 405) (ag:p.base.BuiltinsAt mg 405):
  qs (g4 p) k hd (.ref 408) [.ref sa] [] [(405,.many [(405,DT #[])])] (λy H'=>y= .bool true/\∃q L,qC q 405 L/\H'=[(405,.many L)]) (λoo oo=>False):=by
 refine qs.def gk GF.f_law (Bx hk (by decide)) (I0 (i:=116) GF.b_law rfl) (zu rfl) (λp hp=>by rw [yN.mp hp];exact .inl (WK.mp rfl)) λf as ok hcode hs hc hl hh=>?_
 have hn:=hh.trans hd0
 (refine zc (of15 hl) λa1 a2 a3 ae=>?_;refine zc ae λa4 a5 a6 ac=>?_;refine zc ac λa7 a8 a9 ab=>?_;refine zc ab λX J I aa=>?_;refine zc aa λF u g af=>?_;subst af)
 have hc:f.cells=[(268,a1),(266,a2),(270,a3),(263,a4),(274,a5),(267,a6),(272,a7),(84,a8),(273,a9),(257,X),(262,J),(165,I),(254,F),(80,u),(253,g)]:=hc
 have hcode:f.env.code= .ref 407:=hcode.trans p.kf.code
 let K:LK:={cz:=a1,cw:=a2,cs:=a3,cr:=a4,cn:=a5,cm:=a6,cl:=a7,cd:=a8,cj:=a9,ct:=X,cp:=J,cb:=F,ctop:=g,ba:=0,pa:=0,ca:=0,ma:=0,sa:=sa,D:=⟨0,0,0,0,0,0⟩,n:=0,lo:=0,bads:=[],v1:=none,v4:=none,v7:=none,v8:=none,la:=0,lx:=[]}
 have hC:LC f K:=⟨by rw [hc];rfl,by rw [hc];rfl,by rw [hc];rfl,by rw [hc];rfl,by rw [hc];rfl,by rw [hc];rfl,by rw [hc];rfl,by rw [hc];rfl,by rw [hc];rfl,by rw [hc];rfl,by rw [hc];rfl,by rw [hc];rfl,by rw [hc];rfl⟩
 have hE:qN p mg f:=⟨hcode,C,ag⟩
 show wSs (g4 p) f (k+3) b_law _ _ ⟨[some (.ref sa),none,none,none,none,none,none,none,none,none,none,none,none,none,none,none,none,none,none,none,none,none,none,none],(a1,.cell none)::(a2,.cell none)::(a3,.cell none)::(a4,.cell none)::(a5,.cell none)::(a6,.cell none)::(a7,.cell none)::(a8,.cell none)::(a9,.cell none)::(X,.cell none)::(J,.cell none)::(I,.cell none)::(F,.cell none)::(u,.cell none)::(g,.cell none)::[(405,.many [(405,DT #[])])]⟩
 refine qt.listB hb ok (by rw [yq];exact (ll0 a0 rfl)) ?_
 have Z:=λv:Int=>vT gk hk ok hn hC hE (clow:=u) (cim:=I) (by rw [hc];rfl) (by rw [hc];rfl) hb a0 (v:=v) (L:=[(405,DT #[])]) qC.nil (Q:=U0 λy H'=>y= .bool true/\∃q L,qC q 405 L/\H'=[(405,.many L)]) (EE:=λx σ'=>∃H':List (yu × O),Sub H' σ'.H/\False) (R:=[]) (H:=(a1,.cell none)::(a2,.cell none)::(a3,.cell none)::(a4,.cell none)::(a5,.cell none)::(a6,.cell none)::(a7,.cell none)::(a8,.cell none)::(a9,.cell none)::(X,.cell none)::(J,.cell none)::(I,.cell none)::(F,.cell none)::(u,.cell none)::(g,.cell none)::[(405,.many [(405,DT #[])])]) ((.cons (rq8 (rq4 (rq2 (rq1 rq0)))) (tk0 (tk0 (tk0 (tk0 (tk0 (tk0 (tk0 (tk0 (tk0 (tk0 (tk0 (tk1 (tk2 (tk1 (.refl _))))))))))))))))) λloc H L' ah hm=>xu (JB hm) (qa rfl (qU _ L' ah rfl))
 cases ns with
 |nil=>exact qX (Z 0)
 |cons v r=>exact ke (qG.listB hb ok (by decide) (by decide) rfl (Z v))
end
theorem uV:tab.Nodup:=by decide+kernel
theorem XK {fa sa P cP:yu}
  (F:qs g 301 none (.ref fa) [.ref sa] [] [(P,.many [(P,DT #[])])] (λy H'=>y= .bool true/\∃q L,qC q P L/\H'=[(P,.many L)]) (λoo oo=>False)) (hT:CodeHd s₁.heap cP P)
  (hb:g.base=Hc s₁.heap [(cP,P)]) (hP:s₁.heap.get? P=some (DT #[])) (hl:WV<P) (hg:g.gens= #[]) (a5:s₁.gens= #[]) (hd:g.drawn=s₁.drawn) (ho:g.os=s₁.os) (big: ∃b o,WV<=b/\g.base.get? b=some o)
  (hr: ∀cls,c.raises args cls=false) (hp:c.post args (.bool true) args=true):
  W9 g.M callerA (.call (.ref fa) {pos:=[.ref sa]}) (GoodWG c cl mean args s₁) s₁:=by
 have st:g.base.StaysIn s₁.heap:=hb ▸ (λoo oo e=>of_hideAll _ e)
 have a4:GX g.gens s₁.gens:=by rw [hg,a5];exact GX.refl (.of_eq rfl)
 refine B3 (F g.base [] [] [] callerA s₁ [.ref sa] [] ⟨rfl,by decide,by decide,λoo oo e=>e,rfl,(λoo h=>(yI h).elim),rfl⟩ rfl (Xg [] ([(P,DT #[])]++[]) (.nil) (HR.cons rfl rfl) ⟨by simp,λp hp=>?_,λp hp=>?_,st,big,λp hp=>?_⟩ a4 hd.symm ho.symm) (.cons .ref .nil) .nil) λr s' h=>?_
 ·rw [yN.mp hp];exact hP
 ·rw [yN.mp hp,hb];exact Fm _ (.head _)
 ·rw [yN.mp hp];exact hl
 ·rcases r with e|(_|_|_|v)
  ·refine qk h λoo oo oo oo h=>?_;exact h.elim
  ·exact h.elim
  ·exact h.elim
  ·exact h.elim
  ·(refine xW h λx H' hv a2 a1 X=>?_;refine qB X λq L a0 Z=>?_;clear h;obtain ⟨a6,N,h1,h2,h3,h4,h5,h6⟩:=a2;subst a1;obtain ⟨ps,cs,rfl,_⟩:=a0;subst Z)
   obtain rfl:=hv
   (refine qk h2 λoo N' J I a7=>?_;clear h2;subst J;subst I)
   have u:s'.heap.get? P=some (DT ps):=h3.there (P,DT ps) (yx _ (.head _))
   have keep: ∀b o,b≠P->s₁.heap.get? b=some o->s'.heap.get? b=some o:=λb o a3 e=>h3.stays b o (by
    rw [hb]
    exact ghost_ne e λhm=>by
     rw [yH,Dq,yN] at hm;exact a3 hm)
   refine zQ (.inl (ji _ _ [] rfl hr (.bool _) hp (λoo=>(qa WW (λoo h=>(yI h).elim))))) ⟨λb o e=>?_,λb o e=>?_⟩ (h6.trans ho) h4.2
   ·by_cases C:b=P
    ·subst C
     rw [hP] at e
     obtain rfl:=Wc.inj e
     exact .inr (.inl (qy ((hT.tab hP).isCodeTable) rfl (qU (#[]) ps rfl (by rw [Array.empty_append];exact u))))
    ·exact .inl (keep b o C e)
   ·by_cases C:b=P
    ·subst C;exact qx _ u
    ·exact qx o (keep b o C e)
theorem law1_end {K:B0} (FX:U1 K w) (KX:K.In s₁.heap) (T:Top p loose mean mg mb s₁.heap)
  (hT:CodeHd s₁.heap 407 405/\s₁.heap.get? 405=some (DT #[]))
   (F:mg (qS "law")=some (.ref fa)) (hg:s₁.gens= #[]) (hI:IntsAre vs ns) (hL:s₁.heap.IsList sa vs.toArray) (C:ns.length<=1000)
    (hr: ∀a x,c.raises a x=false) (hp:c.post args (.bool true) args=true):
  W9 (Wf PySem.Challenge.pw_jj0022_01 w) callerA (.call (.ref fa) {pos:=[.ref sa]}) (GoodWG c cl mean' args s₁) s₁:=by
 obtain rfl:fa=408:=by
  have e:=mg_of KX T.g FX.law_at
  rw [F] at e
  cases e;rfl
 have u:TabsAt [(407,405)] s₁.heap:=λq hq=>by rw [yN.mp hq];exact hT
 have K':=ghost_K u KX FX.notabs
 have T':=ghost_top u T
 have gk:GOk (g4 ⟨w,K,FX,Hc s₁.heap [(407,405)],s₁.drawn,s₁.os,#[]⟩) mg mb:=⟨K',T'.g,T'.b,T'.nolimit,Yh (g:=g4 ⟨w,K,FX,Hc s₁.heap [(407,405)],s₁.drawn,s₁.os,#[]⟩) K' T'.g T'.builtins ((FX.gg _ _ _ _).globs),uV⟩
 have hb:LsB (g4 ⟨w,K,FX,Hc s₁.heap [(407,405)],s₁.drawn,s₁.os,#[]⟩) sa (ns.map V.int):=(qj vs (IntsAre.toVRs hI) (ghost_list u hL))
 have I:(Hc s₁.heap [(407,405)]).BuiltinsAt mg 405:=by
  refine Jn (T'.bmain) λbm ob b1 b2 b3 b4 b5 b6=>?_
  refine i2a6 bm ob b1 b2 (λq=>?_) (λq=>?_) b3 b4 (qa b5 b6)
  ·refine kT (T'.g) λo es ep e ed oo=>?_
   rw [<- q,b3] at e
   obtain rfl:=Wc.inj e
   rw [b6] at ed;cases ed
  ·rw [q,show (Hc s₁.heap [(407,405)]).get? 405=none from Fm _ (.head _)] at b3
   cases b3
 refine XK (g:=g4 ⟨w,K,FX,Hc s₁.heap [(407,405)],s₁.drawn,s₁.os,#[]⟩) (uz gk (by decide) rfl hb C (ghost_code u).1 I) hT.1 rfl hT.2 (by decide) rfl hg rfl rfl ?_ (hr args) hp
 refine qA (DR.mp FX.big) λo ho=>?_
 exact qU 408 o (by decide) (K' _ _ ho)
theorem tt0:True:=trivial
namespace hd
def tw14330866029970894518:=tt0
def tw11812990402858981387:=tt0
def tw168994441188853045:=tt0
def tw9046533771756868877:=tt0
def tw11570111164570437037:=tt0
def tw16140346037966671567:=tt0
def tw11145164175221040675:=tt0
def tw5330046652437701267:=tt0
def tw9826395005243518002:=tt0
def tw4445787948887339598:=tt0
def tw14117766483522153913:=tt0
def tw15230860919284253270:=tt0
def tw7155325772150460729:=tt0
def tw17110113439582799386:=tt0
def tw1298781202104834068:=tt0
def tw2848176756851099411:=tt0
def tw15161326946880079398:=tt0
def tw13862642468083079315:=tt0
def tw2223425423447361994:=tt0
def tw18001230695176581838:=tt0
def tw15808516280766499198:=tt0
def tw11934350699983728027:=tt0
def tw11862501624678476012:=tt0
def tw4834755124440303813:=tt0
def tw13565630665325419216:=tt0
def tw11680542252808841068:=tt0
def tw3468692830772142871:=tt0
def tw17085629754188750694:=tt0
def tw10314814847376767113:=tt0
def tw10652557068286136655:=tt0
def tw15575071372768740936:=tt0
def tw5766817342387943034:=tt0
def tw4011730449221504619:=tt0
def tw17237978297281736309:=tt0
def tw10000147801426223185:=tt0
def tw17078526466157459939:=tt0
def tw5155557033790407861:=tt0
def tw5129100327938481947:=tt0
def tw16738745784312259678:=tt0
def tw11745692727488381282:=tt0
def tw1665519426611977725:=tt0
def tw12917748928761252462:=tt0
def tw27347020408234108:=tt0
def tw16222965213611063096:=tt0
def tw1070806864712125225:=tt0
def tw15544853520655005638:=tt0
def tw9003164874222133143:=tt0
def tw13029036752043021494:=tt0
def tw10662918880931068272:=tt0
def tw18272491874396864091:=tt0
def tw16575594610192822480:=tt0
def tw1109879514587821502:=tt0
def tw14076141398139754965:=tt0
def tw2092355116749281574:=tt0
def tw4413494717353474276:=tt0
def tw18059793885086720939:=tt0
def tw4544679596462431387:=tt0
def tw4855435815858847083:=tt0
def tw16732195475098059574:=tt0
def tw15972030042294211563:=tt0
def tw13702962655247883447:=tt0
def tw16045600132092593285:=tt0
def tw5764951542481038590:=tt0
def tw17714025838733488182:=tt0
def tw2364733319659085324:=tt0
def tw4790182246096814837:=tt0
def tw10554151724961605560:=tt0
def tw16633321846759511662:=tt0
def tw2114883523508822293:=tt0
def tw3062554034549116351:=tt0
def tw13721701085657304472:=tt0
def tw9465431125875546204:=tt0
def tw4455062051430825911:=tt0
def tw9503991325330020860:=tt0
def tw7459606713180098869:=tt0
def tw4277449665417238038:=tt0
def tw4568231203091369911:=tt0
def tw9687556985513317663:=tt0
def tw9061976029859154695:=tt0
def tw1861754713845661025:=tt0
def tw10168931427177779312:=tt0
def tw16898703421338395802:=tt0
def tw18225048404721366151:=tt0
def tw6350475880396880301:=tt0
def tw14170626163746665929:=tt0
def tw9729328000736971776:=tt0
def tw15614994299816657964:=tt0
def tw17734745681671571602:=tt0
def tw17848483983322774464:=tt0
def tw2447612040936993662:=tt0
def tw3564083277989941625:=tt0
def tw6064361311239337953:=tt0
def tw865256926295866735:=tt0
def tw12387470312852788890:=tt0
def tw15516504957378829982:=tt0
def tw2241180450144564393:=tt0
def tw1235247223174674489:=tt0
def tw7828148429267724845:=tt0
def tw9959168783939394535:=tt0
def tw9666415797876524396:=tt0
def tw17438610683811369668:=tt0
def tw10287841801749109433:=tt0
def tw6235530936889558916:=tt0
def tw1626954789893016217:=tt0
def tw16611703323094282476:=tt0
def tw15265042437909298333:=tt0
def tw1764190043647282684:=tt0
def tw4292124644429209710:=tt0
def tw11423366701579904857:=tt0
def tw9368504840272485767:=tt0
def tw1697823684261348857:=tt0
def tw14766628837263464153:=tt0
def tw2485592187805179729:=tt0
def tw455996952264472808:=tt0
def tw18257728168264807195:=tt0
def tw4658019537419120338:=tt0
def tw8434754763198761545:=tt0
def tw17148754175671867601:=tt0
def tw13915988487920759594:=tt0
def tw9417033243287817803:=tt0
def tw9221647939110133654:=tt0
def tw8455509636433690358:=tt0
def tw7333407450560187677:=tt0
def tw15834621417332309486:=tt0
def tw10722823521496815397:=tt0
def tw8580518863689810338:=tt0
def tw10982043714301441875:=tt0
def tw15068095265764424882:=tt0
def tw15170166819509798712:=tt0
def tw8382594148505853963:=tt0
def tw8547976606474840627:=tt0
def tw7046368057735379631:=tt0
def tw6211407954914241527:=tt0
def tw11082318014727886095:=tt0
def tw1066297216363992635:=tt0
def tw3751741238260587452:=tt0
def tw8631647698044649071:=tt0
def tw7793654075249205795:=tt0
def tw6231300445862588781:=tt0
def tw8494178379519767217:=tt0
def tw9139467792480963413:=tt0
def tw8184985727622759877:=tt0
def tw1942723855846508794:=tt0
def tw6078900312468773854:=tt0
def tw1736350178976864181:=tt0
def tw5910955368310942365:=tt0
def tw17548301592722837999:=tt0
def tw6897007368991420636:=tt0
def tw16568257914760601096:=tt0
def tw7677069738282807967:=tt0
def tw10098858484532871584:=tt0
def tw14194955961183906216:=tt0
def tw2873107717996512030:=tt0
def tw2796045569192068878:=tt0
def tw8983397095688490290:=tt0
def tw5165858259965997201:=tt0
def tw8882255173952614290:=tt0
def tw3312639428575888987:=tt0
def tw11056149785067698321:=tt0
def tw6714678847661489262:=tt0
def tw15441256140065102201:=tt0
def tw2395360589981782600:=tt0
def tw12149660499277099224:=tt0
def tw18260245816743181511:=tt0
def tw17106247454124805299:=tt0
def tw15872721093973134059:=tt0
def tw6362447207671622590:=tt0
def tw11360155759697910294:=tt0
def tw1546340448729182881:=tt0
def tw4484312828943147451:=tt0
def tw7863745022479089229:=tt0
def tw4933048531270659217:=tt0
def tw9365843419700471067:=tt0
def tw16319470913992416506:=tt0
def tw1760938099516911481:=tt0
def tw6179258418468663141:=tt0
def tw9692193050773601005:=tt0
def tw628826382804869247:=tt0
def tw7504022934668878425:=tt0
def tw603594558354810906:=tt0
def tw5813924530853040166:=tt0
def tw7363439029260755892:=tt0
def tw10056392159520603492:=tt0
def tw2601553834287326237:=tt0
def tw7011742071773796823:=tt0
def tw10976678710191227778:=tt0
def tw14228869016593613808:=tt0
def tw18212267438146297484:=tt0
def tw12904261374257909793:=tt0
def tw6324595852799433117:=tt0
def tw15313804776001833728:=tt0
def tw1295079835146089599:=tt0
def tw4853578551445522630:=tt0
def tw141379768648097825:=tt0
def tw5759647067039785218:=tt0
def tw16912601836600679760:=tt0
def tw7104915865109316593:=tt0
def tw17059487216203745038:=tt0
def tw13238961998321641863:=tt0
def tw1523212933880916979:=tt0
def tw13308291806819139472:=tt0
def tw10126381309830911881:=tt0
def tw2655586099545260437:=tt0
def tw420110763358337415:=tt0
def tw10777565216647047016:=tt0
def tw16607972267231536329:=tt0
def tw15051540443700079324:=tt0
def tw1479959440485337153:=tt0
def tw7430934849479919532:=tt0
def tw1002739005766175229:=tt0
def tw15232813378086664489:=tt0
def tw231678842138440352:=tt0
def tw10980597926105621645:=tt0
def tw1292574782506224866:=tt0
def tw14811076978495188195:=tt0
def tw2310416840173604703:=tt0
def tw14321712812228375884:=tt0
def tw17992777665364332788:=tt0
def tw3361780842719999595:=tt0
def tw3655753129109681850:=tt0
def tw9193979096431994668:=tt0
def tw4669232988116832430:=tt0
def tw8363449657656907623:=tt0
def tw9257564877634915833:=tt0
def tw12289785986931056098:=tt0
def tw16698072605275554026:=tt0
def tw6809180150348452684:=tt0
def tw14851662188348016525:=tt0
def tw6196946367736269074:=tt0
def tw10010880442989136664:=tt0
def tw1847498129718734126:=tt0
def tw6778391522916555698:=tt0
def tw1111395655364133852:=tt0
def tw16192249821931289364:=tt0
def tw6087493978418456603:=tt0
def tw7569833724000825925:=tt0
def tw15008555091322755903:=tt0
def tw2777310486606898128:=tt0
def tw2488860425557155003:=tt0
def tw13411596345087251410:=tt0
def tw11790099413888845297:=tt0
def tw16009306857160682382:=tt0
def tw6816647734673517018:=tt0
def tw840981496064437866:=tt0
def tw3780787445193727532:=tt0
def tw4318662949951621594:=tt0
def tw7730664659590461041:=tt0
def tw17519745973974767739:=tt0
def tw11328591614603762405:=tt0
def tw4736157901138370405:=tt0
def tw4458026342584188919:=tt0
def tw10624226597165476215:=tt0
def tw10257909930514227660:=tt0
def tw8971800947757722863:=tt0
def tw4507420085913086705:=tt0
def tw1434398142359552746:=tt0
def tw6264115543738340563:=tt0
def tw5587868097446475073:=tt0
def tw2417802982746472137:=tt0
def tw11239992877300529265:=tt0
def tw287947231083746679:=tt0
def tw7350544599812273793:=tt0
def tw270159884227141191:=tt0
def tw13345808911917323032:=tt0
def tw8138335841240258086:=tt0
def tw367857026772771265:=tt0
def tw10708561578853574150:=tt0
def tw9259770788124725997:=tt0
def tw18313958262992902728:=tt0
def tw13585729697985622802:=tt0
def tw16490958093706603973:=tt0
def tw3867037960071472045:=tt0
def tw17386589932338058259:=tt0
def tw5371229575969440175:=tt0
def tw17877473435196805177:=tt0
def tw2942616286324163607:=tt0
def tw6383293400628747032:=tt0
def tw13414662886053400026:=tt0
def tw8994223850203857199:=tt0
def tw13291438424144138419:=tt0
def tw17682009817383010814:=tt0
def tw2582875464695293758:=tt0
def tw8149274712835364755:=tt0
def tw1874159405358719183:=tt0
def tw6585647535407982122:=tt0
def tw4812445951556440385:=tt0
def tw9424071236715195469:=tt0
def tw15709432073139065983:=tt0
def tw778996663928911553:=tt0
def tw13704628199583507327:=tt0
def tw7839861392634791998:=tt0
def tw7238881122909273056:=tt0
def tw14811596470062305402:=tt0
def tw14199497947161861042:=tt0
def tw736559914600380603:=tt0
def tw7524951473946329476:=tt0
def tw2653743191003888531:=tt0
def tw1575818370579092412:=tt0
def tw1992405202823017090:=tt0
def tw13043773894940636711:=tt0
def tw9745053878982180236:=tt0
def tw7107885837275350853:=tt0
def tw5848525411004977341:=tt0
def tw3731684781155429145:=tt0
def tw10981247840145607329:=tt0
def tw16655954734093074254:=tt0
def tw14234986236628817851:=tt0
def tw5630533868503338980:=tt0
def tw5486493490053360157:=tt0
def tw5411588774181628338:=tt0
def tw69890677706110351:=tt0
def tw10953487992723715146:=tt0
def tw12284123929361467263:=tt0
def tw187721451887068916:=tt0
def tw16049856711259736594:=tt0
def tw324789982251995979:=tt0
def tw10611771540298893143:=tt0
def tw13819635886744424586:=tt0
def tw6825794384878216377:=tt0
def tw5963049168890907350:=tt0
def tw8418850081465071547:=tt0
def tw14846430730451215336:=tt0
def tw4887793233202170652:=tt0
def tw15974211974722447953:=tt0
def tw16116582832771544909:=tt0
def tw8019583575661373409:=tt0
def tw15842043797858019231:=tt0
def tw18264486928267264063:=tt0
def tw3261694639857263868:=tt0
def tw16264488296547236668:=tt0
def tw16531839799347345522:=tt0
def tw6128699546485818623:=tt0
def tw4412262172769576561:=tt0
def tw16669484289434262652:=tt0
def tw2782680217427406503:=tt0
def tw9789424005658652060:=tt0
def tw1280408269989808285:=tt0
def tw1387449649885023538:=tt0
def tw16644201821892198081:=tt0
def tw9205932166849929317:=tt0
def tw1838016361993159935:=tt0
def tw8974285638726340953:=tt0
def tw588414361728750325:=tt0
def tw42479039228130786:=tt0
def tw11122842944015723790:=tt0
def tw4794295470348331434:=tt0
def tw3227706676992921592:=tt0
def tw2938735568688020788:=tt0
def tw13673710656853086251:=tt0
def tw11243312107713688672:=tt0
def tw6425283475488350215:=tt0
def tw358998308624483670:=tt0
def tw12010918843540018363:=tt0
def tw4577393864431605276:=tt0
def tw14946310595379027892:=tt0
def tw15361818238251678471:=tt0
def tw1555437378128666086:=tt0
def tw15080681613647853314:=tt0
def tw14323767728887713897:=tt0
def tw14304563500966998132:=tt0
def tw567898682632124531:=tt0
def tw4427974247585970236:=tt0
def tw11747188248321908775:=tt0
def tw9156451550823312209:=tt0
def tw2399103561582609577:=tt0
def tw5533284921534288411:=tt0
def tw11810988563341916252:=tt0
def tw4144914912218024235:=tt0
def tw10200596682531068870:=tt0
def tw15459919231471728178:=tt0
def tw6617686139246983403:=tt0
def tw4636975807341552304:=tt0
def tw10671393477618117455:=tt0
def tw17417785148129514321:=tt0
def tw9366875484532515407:=tt0
def tw11203017424089718567:=tt0
def tw5690937469579830610:=tt0
def tw9372208762206411727:=tt0
def tw3058765270845314565:=tt0
def tw14791417324727343718:=tt0
def tw15378620127687112918:=tt0
def tw12822435600720695279:=tt0
def tw2130250830938240763:=tt0
def tw18251112825599106275:=tt0
def tw13056049162108353537:=tt0
def tw17873168446024335648:=tt0
def tw9747750627657676039:=tt0
def tw3503359234994187029:=tt0
def tw18315960055377521309:=tt0
def tw12740448316850118660:=tt0
def tw6767105285010031935:=tt0
def tw15184348022372230366:=tt0
def tw1479833339227408067:=tt0
def tw3219386304998410691:=tt0
def tw15015567032572629849:=tt0
def tw17587535071971633485:=tt0
def tw14084754144043732904:=tt0
def tw597430841090971830:=tt0
def tw16808911903280404894:=tt0
def tw12887234407305532606:=tt0
def tw1976320048464600139:=tt0
def tw7252744027004354421:=tt0
def tw15293771430684577509:=tt0
def tw10478568671102049440:=tt0
def tw5479632107175813453:=tt0
def tw13675884382191442351:=tt0
def tw2234841607322767675:=tt0
def tw7182486151376732564:=tt0
def tw8753742132941547738:=tt0
def tw14273016659237327726:=tt0
def tw6418394132375852581:=tt0
def tw12382532101624025837:=tt0
def tw17698727481433063041:=tt0
def tw9691164852092459200:=tt0
def tw11406844259604597016:=tt0
def tw13814786413287485596:=tt0
def tw10305269356859574647:=tt0
def tw7873400313799303876:=tt0
def tw18229235640690726180:=tt0
def tw12023000035769693673:=tt0
def tw4650248630828124516:=tt0
def tw4551586886017427205:=tt0
def tw1479440292816680990:=tt0
def tw3692403537964248751:=tt0
def tw2382034009712293678:=tt0
def tw9812517637422296469:=tt0
def tw11585793122591300342:=tt0
def tw5285049794066362645:=tt0
def tw12905145899662694839:=tt0
def tw7192714274489868344:=tt0
def tw6742079255410503971:=tt0
def tw16555405951933438768:=tt0
def tw15149605427897886594:=tt0
def tw17327716533671561472:=tt0
def tw3609619317189211081:=tt0
def tw13988012559056256269:=tt0
def tw5594199804548315133:=tt0
def tw5469443151430644227:=tt0
def tw2173964782534647824:=tt0
def tw9027985886240724871:=tt0
def tw16561031784554278298:=tt0
def tw12426564226344084313:=tt0
def tw10290247671117069052:=tt0
def tw14019357707464180739:=tt0
def tw2908595245633717595:=tt0
def tw2677792999027748202:=tt0
def tw7306873896866421051:=tt0
def tw9180358300632990600:=tt0
def tw58351903789159699:=tt0
def tw15610926135251115398:=tt0
def tw17244905008012452814:=tt0
def tw13078271307976294731:=tt0
def tw8890726212758104139:=tt0
def tw2267546703583191381:=tt0
def tw17745206419663925312:=tt0
def tw5588271506499744379:=tt0
def tw9013603393401162020:=tt0
def tw7928477069593319606:=tt0
def tw17896979994045829828:=tt0
def tw17213202801741711188:=tt0
def tw1920314895626431374:=tt0
def tw14479959197142875710:=tt0
def tw9452872987620912765:=tt0
def tw11234803216861417679:=tt0
def tw18002567053797782338:=tt0
def tw9807025249006525022:=tt0
def tw2155373148024153087:=tt0
def tw1756488131837449251:=tt0
def tw10592794516085672850:=tt0
def tw10507069991603443811:=tt0
def tw14066897420323017581:=tt0
def tw7759662770534874592:=tt0
def tw5654540503010958517:=tt0
def tw14569192112799493162:=tt0
def tw3595355477287675206:=tt0
def tw5498244211294084031:=tt0
def tw2023505568393890930:=tt0
def tw16558604503322718569:=tt0
def tw9870564867049460845:=tt0
def tw17510691922017120571:=tt0
def tw12978694689486476534:=tt0
def tw13185193354669925997:=tt0
def tw4287501998611880655:=tt0
def tw580301670077480640:=tt0
def tw15375172055198407550:=tt0
def tw7635829786263382596:=tt0
def tw13331704739837112769:=tt0
def tw8759374071611058102:=tt0
def tw6046201485432095634:=tt0
def tw3909357950647291814:=tt0
def tw2557189256652083335:=tt0
def tw8151924304054899687:=tt0
def tw10584903055604394054:=tt0
def tw17204449605386721941:=tt0
def tw735499216457412341:=tt0
def tw15039365748200984442:=tt0
def tw8113946606531873331:=tt0
def tw11656587275550533016:=tt0
def tw10610930620100246578:=tt0
def tw10223230911338949651:=tt0
def tw4996283469597685290:=tt0
def tw4320484385527528217:=tt0
def tw8998826512192558392:=tt0
def tw5585562161386960571:=tt0
def tw15725300006707927175:=tt0
def tw7669143873086936922:=tt0
def tw10193104807299194216:=tt0
def tw16953484572288141156:=tt0
def tw4873480283540838167:=tt0
def tw1173135590058218265:=tt0
def tw1209259664397189692:=tt0
def tw16671430358935201974:=tt0
def tw1324119301739381:=tt0
def tw10875472949588697265:=tt0
def tw3896432864908169337:=tt0
def tw126899189614909607:=tt0
def tw1669287690364492995:=tt0
def tw16973133056051306746:=tt0
def tw18352704746069975241:=tt0
def tw6812285832159228509:=tt0
def tw8293519452102458304:=tt0
def tw570580334211071369:=tt0
def tw754995371310844855:=tt0
def tw690909109011163107:=tt0
def tw8499867674576427667:=tt0
def tw3076281753983609132:=tt0
def tw4324768590502034390:=tt0
def tw10200059711980206030:=tt0
def tw4992423415846252249:=tt0
def tw363472608344557089:=tt0
def tw5058971680067830842:=tt0
def tw18066081243835392563:=tt0
def tw12801012565498045964:=tt0
def tw16994832310330321305:=tt0
def tw8764165114954018434:=tt0
def tw13419790239819088309:=tt0
def tw12047607623401616077:=tt0
def tw17775649180985745786:=tt0
def tw12481797993636667465:=tt0
def tw7562163892257148404:=tt0
def tw2389079507042779699:=tt0
def tw9032869535437464162:=tt0
def tw6351979084779308449:=tt0
def tw9464389324830640952:=tt0
def tw18150562674833509941:=tt0
def tw2177979273374649106:=tt0
def tw11493971737185125964:=tt0
def tw6597962789093873526:=tt0
def tw13436793889874751463:=tt0
def tw8637924245605089610:=tt0
def tw3241314515751092627:=tt0
def tw5604250919994444252:=tt0
def tw7095182050415464044:=tt0
def tw12752725365382290980:=tt0
def tw6742742947621614006:=tt0
def tw8722938342819674158:=tt0
def tw8673760779264423547:=tt0
def tw6743835506366012284:=tt0
def tw10754876068304953247:=tt0
def tw10169186735810369720:=tt0
def tw4572055151466897615:=tt0
def tw8583156150137307454:=tt0
def tw4239049415839531936:=tt0
def tw2075781144131075437:=tt0
def tw12280789728482893115:=tt0
def tw5724930324438531845:=tt0
def tw3471617488691342163:=tt0
def tw123068294514122753:=tt0
def tw3641903923722224168:=tt0
def tw15446708149075816471:=tt0
def tw9285060498679892708:=tt0
def tw6269251234911203764:=tt0
def tw14885124812403076695:=tt0
def tw1513407473488127497:=tt0
def tw4195166080166848607:=tt0
def tw9810849677208565135:=tt0
def tw1532897608927182526:=tt0
def tw12179782168187316902:=tt0
def tw8487141342484382090:=tt0
def tw4901217085786567169:=tt0
def tw80207222412747470:=tt0
def tw6760662844775422206:=tt0
end hd
set_option Elab.async true in
set_option tactic.hygienic true in
set_option maxHeartbeats 0 in
theorem hd : PySem.Challenge.rw_jj0022_01.Holds := by
  w_on
  o_law
  k_head
  (case hw => w_witness2)
  k_fill
  intro w s₀ s₁ mg mb G Y fa o pm cd doc dV kV ho hd hcd hD hmg hg args vals as hpre hlay hrd hwl hlo
  have KX := km_in_of Y
  refine Ground.open G ?_
  intro T B D TE TW
  wrow_args hpre hlay hrd hwl hlo
  rename_i ns _ _ _ _ _ _ _ sa vs _ hL _ _ _ hI _ hlen _
  refine enter_call ?_
  refine law1_end ?FX KX T (tab_of (x := PySem.Str.ofString "law") (c := 407) (P := 405) T KX rfl ?tb) hmg hg hI hL (by omega) ?_ ?_
  case FX => exact ⟨fun _ _ _ _ => ⟨⟨by kernel_rfl, by kernel_rfl, by kernel_rfl⟩, ⟨by kernel_rfl, by kernel_rfl, by kernel_rfl⟩, ⟨by kernel_rfl, by kernel_rfl, by kernel_rfl⟩, ⟨by kernel_rfl, by kernel_rfl, by kernel_rfl⟩, ⟨by kernel_rfl, by kernel_rfl, by kernel_rfl⟩, ⟨by kernel_rfl, by kernel_rfl, by kernel_rfl⟩, ⟨by kernel_rfl, by kernel_rfl, by kernel_rfl⟩, ⟨by kernel_rfl, by kernel_rfl, by kernel_rfl⟩, ⟨by kernel_rfl, by kernel_rfl, by kernel_rfl⟩, ⟨by kernel_rfl, by kernel_rfl, by kernel_rfl⟩, ⟨by kernel_rfl, by kernel_rfl, by kernel_rfl⟩, ⟨by kernel_rfl, by kernel_rfl, by kernel_rfl⟩, ⟨by kernel_rfl, by kernel_rfl, by kernel_rfl⟩, ⟨by kernel_rfl, by kernel_rfl, by kernel_rfl⟩, ⟨by kernel_rfl, by kernel_rfl, by kernel_rfl⟩, ⟨by kernel_rfl, by kernel_rfl, by kernel_rfl⟩, ⟨by kernel_rfl, by kernel_rfl, by kernel_rfl⟩, ⟨by kernel_rfl, by kernel_rfl, by kernel_rfl⟩, ⟨by kernel_rfl, by kernel_rfl, by kernel_rfl⟩, ⟨by kernel_rfl, by kernel_rfl, by kernel_rfl⟩, ⟨by kernel_rfl, by kernel_rfl, by kernel_rfl⟩, fun _ => by kernel_rfl, fun _ => by kernel_rfl, fun _ _ _ => by kernel_rfl, fun _ _ => by kernel_rfl, fun _ _ => by kernel_rfl, fun _ _ => by kernel_rfl, fun _ _ => by kernel_rfl, fun _ _ => by kernel_rfl, fun _ _ => by kernel_rfl, fun _ _ _ => by kernel_rfl, fun _ _ => by kernel_rfl, fun _ _ _ _ _ => by kernel_rfl, fun _ _ => by kernel_rfl, fun _ _ _ => by kernel_rfl, fun _ _ => by kernel_rfl, fun _ => by kernel_rfl, fun _ _ _ _ _ => by kernel_rfl, fun _ _ _ _ _ => by kernel_rfl, fun _ => by kernel_rfl, fun _ _ => by kernel_rfl, fun _ _ => by kernel_rfl, fun _ _ _ => by kernel_rfl, fun _ _ _ => by kernel_rfl, fun _ _ => by kernel_rfl, ⟨by kernel_rfl, by kernel_rfl, by kernel_rfl, by kernel_rfl⟩, ⟨by kernel_rfl, by kernel_rfl⟩, by kernel_rfl, by kernel_rfl, by kernel_rfl, by kernel_rfl, fun _ _ => by kernel_rfl, fun _ _ _ => by kernel_rfl, by kernel_rfl⟩, by kernel_rfl, by kernel_rfl, by kernel_rfl, by kernel_rfl, by kernel_rfl, by kernel_rfl, by kernel_rfl, by kernel_rfl, by kernel_rfl, by kernel_rfl, by kernel_rfl, by kernel_rfl, by kernel_rfl, by kernel_rfl, by kernel_rfl, by kernel_rfl, by kernel_rfl, by kernel_rfl, by kernel_rfl, by kernel_rfl, by kernel_rfl⟩
  case tb => kernel_rfl
  · exact fun _ _ => rfl
  · wrow_post
end Mine.Internal
theorem PySem.Challenge.cw_jj0022_01_holds : PySem.Challenge.rw_jj0022_01.Holds :=
  Mine.Internal.hd
