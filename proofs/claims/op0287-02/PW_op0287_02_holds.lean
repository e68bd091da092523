import PyProof.Rows.All
import Wide.FinOn
import OpenK.AllK
import Wide.All
import Lean
import PySem.Challenge.RW_op0287_02
set_option Elab.async false
set_option linter.all false
set_option compiler.extract_closed false
namespace Mine.Internal
open PySem PySem.W PyProof.Rows PySem.Challenge
open _root_.PySem renaming wpAny_bind → ED, wpAny_pure → EI, sizeLine_eq → ER, wpAny_holding → E1, NameKind → Ee, Builtin → Ep, wpAny_mono → Es, Comprehension → Eu, sizeLine → FI, wpAny_standAt → FT, ReadsAll → FZ, compareOp → Ff, codeAny_builtin → Fg, wpAny_call → Fi, Program → Fq, foldedSetIterable → Fu, starEach → Fy, wpAny_of_eq → GG, keywordEach → GH, wpAny_Call_NameR → GL, codeAny → GR, DictEntry → GT, cellsFrom → GV, codeAny_call_builtin → GX, seg_bind_wrap → GZ, wpAny_newObj_type → G8, typeLookup_type → Gf, specialOf → Gk, intKind → Gm, mainGlobals → Go, isSubtype_type → Gp, codeAny_of_tree → Gx, entryFor_of_tree → HC, backToKw → HE, letOwnedTupleGo → HH, wpAny_truthy_bool → HN, callWith → HO, attributeBase → HR, standAt → HT, wpAny_isTrue_BoolOp → HU, letTemporaryGo → H1, opaqueClassAbove → H5, builtinsNs → Hb, wpAny_Constant_str → Hc, wpAny_allTrue_And_cons → Hd, wpAny_Call_method_late → He, wpAny_updateSeq → Hi, plainId_quiet → Hk, wpAny_pyIter_list → Hn, FuncData → Hr, holding → Hx, wpAny_execs_cons → Hy, checkBuiltinCall → IB, find?_eq_fast → IF, importedModules → IG, Keyword → IH, assignEach → IJ, wpAny_rule → IK, isInstance → IL, typeLookup → IM, slot_listiter_next → IN, wpAny_Call_method0_late → IR, wpAny_field → IS, isSubtype → IT, getMethod → IW, wpAny_is_plain → I6, wpAny_typeOf → I8, checkBoundCall → I9, wpAny_allTrue_Or_cons → Ig, wpAny_askSetting → Ik, swappedStores → Io, ExceptHandler → Ir, binaryOp → Iy, entryFor → JA, wpAny_specialOf → JF, wpAny_Assign_stores → JJ, cellsFrom_ok → JN, relabel → JO, getAttr → JP, Setting → JQ, sysModules → JX, Operator → JY, firstAsync → JZ, call_meets → J3, wpAny_setField_rec → J5, wpAny_assign_Name → Jf, wpAny_isNot_plain → Jh, wpAny_truthy_list → Ji, subscripted → Jj, slot_list_getitem → Jk, wpAny_collect_seq → Jl, builtinKind → Jm, swapsWithSole → Jr, comprehension → Js, wpAny_release → Jt, bindArgs → Jz, wpAny_list_append_plain → KA, firstIter → KB, wpAny_call_entry → KC, wpAny_Try_except → KD, updateSeq → KE, call_meetsIn → KN, wpAny_load → KP, wpAny_operating → KW, wpAny_isTrue_Compare1 → K0, codeAny_call_function → K2, GenState → K7, arm_assign_Subscript → K8, evalArgs → Ka, wpAny_seqItems → Kc, getItem → Kk, callAny → Kn, strValues → Ko, wpAny_Constant_none → Kq, codeAny_forLoop_any → Kr, builtinType_eq_fast → Kt, entry_listiter_next → Ku, wpAny_evalPart_some → Kv, behindInMarks → Kz, cameBackBy → LG, closureFor → LH, typeIs_str → LJ, firstIterPos → LW, operate → LX, keeperOf → LZ, callSpecial? → L6, treeTable → L9, storeName → La, compStart → Lc, noteFrame → Ld, slicePick → Le, handedOut → Lf, inplaceOp → Lg, wpAny_point → Ll, newList → Lq, collect → Lr, compTurn → Lu
open _root_.PySem.Str renaming ofString → EE
open _root_.List renaming length_map → EF, mem_append → EG, mem_singleton → EJ, getElem?_eq_some_iff → EL, mem_of_getElem? → EN, mem_map → EO, range → EQ, map_map → ET, mem_cons → EV, length_append → EX, getElem?_concat_length → EY, nil_append → EZ, length_cons → E0, getElem?_append_right → E2, map_cons → E9, getElem?_eq_getElem → Eb, mem_range → Ef, getElem?_append_left → Eg, set_append_right → Eh, length_singleton → Ei, map_append → Ek, getElem?_map → Em, cons_append → Eo, getD_eq_getElem?_getD → Et, filter_cons → Ex, getElem?_cons_succ → Ey, append_nil → FH, append_assoc → FK, length_filter_le → FL, mem_filter → FM, contains_iff_mem → FN, replicate → FO, map_congr_left → FR, length_range → FV, zip_nil_right → FX, set_cons_succ → F7, zip_cons_cons → F8, getElem?_set_self → F9, not_mem_nil → Fe, pairwise_cons → Fh, foldl_cons → Fk, getElem?_set_ne → Fm, drop_eq_nil_of_le → Fn, zip_nil_left → Fp, take_of_length_le → Fw, nodup_append → GC, nodup_cons → GI, all_cons → GJ, getD → GN, eq_nil_iff_forall_not_mem → GO, filter_eq_self → GP, eq_nil_of_length_eq_zero → GQ, filter_congr → GS, lookup_cons → GU, all_eq_true → GW, foldl_append → G9, mergeSort_perm → Gc, drop_eq_getElem_cons → Gg, length_replicate → Gh, getElem_mem → Gi, pairwise_singleton → Gu, size_toArray → Gv, length_eq_zero_iff → Gw, any_eq_true → HD, range_succ → HI, Pairwise → HQ, map_eq_nil_iff → HV, cons → HX, mem_flatMap → HZ, length → H7, take_append_of_le_length → H8, length_set → Hh, take_append_drop → Hm, pairwise_map → Ho, pairwise_append → Hp, mem_of_mem_drop → Hs, any_cons → IE, filter_map → II, filter_append → IP, eraseIdx_cons_succ → IU, pairwise_mergeSort → IV, forIn_nil → I5, ext_getElem? → Ia, map_nil → Ic, take_succ_eq_append_getElem → Ie, getElem?_eq_none → Ih, length_take → Im, map_take → Iu, getElem?_of_mem → Iz, length_erase_le → JB, find?_cons → JE, find?_eq_none → J6, map_singleton → J7, foldl_nil → J9, mem_cons_self → Ja, filter_filter → Jb, pairwise_iff_getElem → Jc, mem_or_eq_of_mem_set → Jd, append_eq_append_iff → Je, take_add_one → Jp, nil_perm → Ju, map_drop → Jv, length_drop → KG, nodup_range → KI, ext_getElem → KJ, filter_eq_nil_iff → KQ, pairwise_lt_range → KR, forIn_cons → KV, length_nil → KX, filter_nil → KY, set_append_left → Kd, drop_eq_nil_iff → Ke, mem_of_mem_take → Kf, pairwise_filter → Ki, replicate_succ → Ks, length_pos_iff → Kx, filter_flatten → Ky, foldl → LI, map_set → L5, any_map → L8
open _root_.Nat renaming le_trans → EH, le_refl → EK, le_add_right → EP, le_of_ble_eq_true → EW, not_lt → E3, add_sub_cancel_left → E4, lt_irrefl → E5, lt_succ_self → E6, lt_of_lt_of_le → E8, le_of_eq → Ec, le_succ → Ej, le_of_lt → El, zero_le → En, lt_of_le_of_lt → Er, ble → Ev, add_assoc → FC, ne_of_lt → FG, add_le_add_left → FJ, add_right_comm → F5, add_le_add_right → Fb, le_succ_of_le → Fl, sub_self → GB, succ_le_succ → GK, le_of_lt_succ → G0, le_of_succ_le → G6, mul_le_mul_left → Gb, add_le_add → Gn, add_comm → Gz, le_of_succ_le_succ → HA, le_antisymm → HG, lt_succ_of_lt → HJ, zero_add → HK, add_sub_of_le → HL, add_lt_add_left → HS, succ_ne_zero → HW, lt_or_eq_of_le → Hf, min_eq_left → Hg, not_lt_zero → Hj, lt_trans → Ht, lt_asymm → Hu, min_eq_right → Hz, lt_of_succ_lt → IY, le_total → IZ, ne_of_gt → I4, succ_ne_self → Ij, not_le → Il, mul_le_mul_right → Iv, not_succ_le_zero → Iw, le_add_left → JD, strongRecOn → JG, sub_lt_sub_left → JH, add_left_cancel → JI, lt_or_ge → JM, sub_le → JU, lt_of_le_of_ne → JV, sub_add_cancel → JW, min_le_right → Jw, le_of_not_lt → Jx, lt_add_of_pos_right → Jy, le_of_sub_eq_zero → KZ, not_succ_le_self → K4, succ → K5, succ_mul → LL, beq → LM, succ_pos → LN, mul_one → Li
open _root_.PySem.Heap renaming get?_push_of_some → EM, get?_push_size → ES, size_push → EU, lt_size → Ed, get?_update_self → FU, get?_update_other → GM, SameBut → G7, get?_update_ne → Ge, size_update → Gj, get?_none_of_le → HM, push → HY, NewExc → Lj
open _root_.Int renaming natCast_nonneg → E7, ofNat_lt → Gl, toNat_natCast → HP, ofNat_le → H9, lt_of_le_of_lt → Ha, toNat → Hv, ofNat → IQ, le_trans → JL, fmod_nonneg_of_pos → KS, sub_nonneg_of_le → K6, toNat_of_nonneg → Kp, lt_trans → LP
open _root_.Bool renaming and_eq_true → Ea, eq_iff_iff → FY, false_eq_true → F6, not_eq_true' → GE, eq_false_iff → Ga, or_eq_true → Gy, false_or → Ip, and_eq_true_iff → Ix, or_eq_false_iff → Kh, or_false → LB, true_and → LC, not_true → LF
open _root_.PySem.Challenge renaming rw_op0287_02 → Ew
open _root_.PySem.W renaming of_hideAll → Ez, hideAll_get → Fc, SharedT → Gq, instObj → Gs, hideAll_none → Hw, looks_findIn → IA, specialIn → JR, handedOut_of → KM, plainGet → K9, looks_field → Kb, takesIn → Km, methodCall_KW → LA, absHeap → LQ, opening → LR, methodObj → Lh, looks_clsIn → Lk, callWith_of → Ln, nd_load → Ls, any_some → Lw
open _root_.PySem.Obj renaming mapSeq → FB, mapFields → Iq, data_mapFields → J2, isFreed_of_fields → K3
open _root_.PySem.Value renaming none → FE, type → Fa, ref → Fj, isInt → IX, str → JS
open _root_.PySem.PyData renaming eqv → FF, str → F4, strOk → Fo, canLayAll0 → Fv, int → Fz, list → GY, keyHash → H0, none → JC, canLay0 → J8, bool → Jn, tuple → L7
open _root_.Option renaming map_eq_some_iff → FP, some → GF, bind_eq_some_iff → Gr, bind_some → H4, isSome_iff_exists → ID, map_eq_none_iff → KO, map_map → Kg
open _root_.Array renaming length_toList → FQ, getElem?_eq_some_iff → F0, getElem?_eq_getElem → HF, eq_empty_of_size_eq_zero → H3, toList_append → IC, getElem?_toList → Ii, toList_setIfInBounds → J0, isEmpty_eq_false_iff → J4, toList_push → Jg, toList_eq_nil_iff → KH, replicate → KT, size_push → KU
open _root_.PySem.Calls renaming evalArgs_plain → FS, spliced_cons → FW, spliced_nil → Fs, callWith_builtin → Fx, Name_function_global → Hq, loadGlobal_builtin → Jq
open _root_.PySem.W.Looks renaming of_pure → Fd, ld → I7, of_peek → It
open _root_.PySem.Txt renaming replace → HB, join → Ib
open _root_.PySem.Sem renaming onRaise_eq_wrap → JK
open _root_.PyProof.Rows renaming Subscript_ → KL, AllBare → Kj, sortedAll → Kl, listUpdate_at → LD, isTrue_plain → LV, tail_any → LY, seqEpoch_at → Lo
open _root_.PySem.Data renaming ctorIdx → LU
open _root_.Prod renaming mk → Lp
set_option maxRecDepth 100000
set_option maxHeartbeats 4000000
section
set_option compiler.extract_closed false
universe u1 u2 u3 u4 u5 u6 u7 u8 u9
section
variable {α1:Sort u1} {α2:Sort u2} {α3:Sort u3} {α4:Sort u4} {α5:Sort u5} {α6:Sort u6} {α7:Sort u7} {α8:Sort u8} {α9:Sort u9} {P:Prop}
theorem Bt {p:α1->Prop} (h:∃ a,p a) (k:∀ a,p a->P):P:=h.elim k
theorem CI {p:α1->α2->Prop} (h:∃ a b,p a b) (k:∀ a b,p a b->P):P:=h.elim fun a h=>Bt h (k a)
theorem DT {p:α1->α2->α3->Prop} (h:∃ a b c,p a b c) (k:∀ a b c,p a b c->P):P:=h.elim fun a h=>CI h (k a)
theorem D0 {p:α1->α2->α3->α4->Prop} (h:∃ a b c d,p a b c d) (k:∀ a b c d,p a b c d->P):P:=h.elim fun a h=>DT h (k a)
theorem CC {p:α1->α2->α3->α4->α5->Prop} (h:∃ a b c d e,p a b c d e) (k:∀ a b c d e,p a b c d e->P):P:=h.elim fun a h=>D0 h (k a)
theorem Dl {p:α1->α2->α3->α4->α5->α6->Prop} (h:∃ a b c d e f,p a b c d e f) (k:∀ a b c d e f,p a b c d e f->P):P:=h.elim fun a h=>CC h (k a)
theorem DR {p:α1->α2->α3->α4->α5->α6->α7->Prop} (h:∃ a b c d e f g,p a b c d e f g) (k:∀ a b c d e f g,p a b c d e f g->P):P:=h.elim fun a h=>Dl h (k a)
theorem DE {p:α1->α2->α3->α4->α5->α6->α7->α8->Prop} (h:∃ a b c d e f g i,p a b c d e f g i) (k:∀ a b c d e f g i,p a b c d e f g i->P):P:=h.elim fun a h=>DR h (k a)
theorem EC {p:α1->α2->α3->α4->α5->α6->α7->α8->α9->Prop} (h:∃ a b c d e f g i j,p a b c d e f g i j) (k:∀ a b c d e f g i j,p a b c d e f g i j->P):P:=h.elim fun a h=>DE h (k a)
variable {p q r s t u v w x:Prop}
theorem Bp (h:p/\q) (k:p->q->P):P:=k h.1 h.2
theorem BE (h:p/\q/\r) (k:p->q->r->P):P:=Bp h.2 (k h.1)
theorem BQ (h:p/\q/\r/\s) (k:p->q->r->s->P):P:=BE h.2 (k h.1)
theorem Bo (h:p/\q/\r/\s/\t) (k:p->q->r->s->t->P):P:=BQ h.2 (k h.1)
theorem B7 (h:p/\q/\r/\s/\t/\u) (k:p->q->r->s->t->u->P):P:=Bo h.2 (k h.1)
theorem BZ (h:p/\q/\r/\s/\t/\u/\v) (k:p->q->r->s->t->u->v->P):P:=B7 h.2 (k h.1)
theorem BP (h:p/\q/\r/\s/\t/\u/\v/\w) (k:p->q->r->s->t->u->v->w->P):P:=BZ h.2 (k h.1)
theorem EA (h:p/\q/\r/\s/\t/\u/\v/\w/\x) (k:p->q->r->s->t->u->v->w->x->P):P:=BP h.2 (k h.1)
end
section
variable {a b c d e f g k m n x y z L:Nat} {i j:Int} {q0:Nat} {p q:Prop}
theorem ge0 (e:Ev m n=true) (h:x<=m):x<=n:=EH h (EW e)
theorem ge1 (h:x<=y) (h2:y<=m) (e:Ev m n=true):x<=n:=ge0 e (EH h h2)
theorem ge2 (h:x<=y) (h2:y<m) (e:Ev m n=true):x<=n:=ge1 h (El h2) e
theorem ge3 (h:x<y) (h2:y<m) (e:Ev m n=true):x<=n:=ge2 (El h) h2 e
theorem ge4 (h:x=y) (h2:y<=m) (e:Ev m n=true):x<=n:=ge0 e (h▸h2)
theorem ge5 (h:x=y) (h2:y<m) (e:Ev m n=true):x<=n:=ge0 e (h▸El h2)
theorem ge6 (h:y=x) (h2:y<m) (e:Ev m n=true):x<=n:=ge5 h.symm h2 e
theorem ge7 (h:y=x+(z+1)) (h2:y<=m) (e:Ev m n=true):x<=n:=ge0 e (EH (EP x _) (h▸h2))
theorem ge8 (h:x<=k) (h1:y=k+(z+1)) (h2:y<=m) (e:Ev m n=true):x<=n:=EH h (ge7 h1 h2 e)
theorem ge9 (h:x<=m/\p) (e:Ev m n=true):x<=n:=ge0 e h.1
theorem CA (h:x=z) (h1:z<y) (h2:y<=m) (e:Ev m n=true):x<=n:=ge4 h (EH (El h1) h2) e
theorem yz (h:y<=m) (e:Ev m n=true):min z y<=n:=ge1 (Jw _ _) h e
theorem DZ (h:x=min z y) (h2:y<=m) (e:Ev m n=true):x<=n:=h▸yz h2 e
theorem DV (h:x<=min z y) (h2:y<=m) (e:Ev m n=true):x<=n:=EH h (yz h2 e)
theorem CB (h:y<=m) (e:Ev m n=true):min z y - k<=n:=EH (JU _ _) (yz h e)
theorem DK (h:y<=m) (e:Ev (m+2+m) n=true):min z y+2+(y - k)<=n:=ge0 e (Gn (Fb (EH (Jw _ _) h) 2) (EH (JU _ _) h))
theorem DA (h:x<=y - k) (h2:y<=m) (e:Ev m n=true):x<=n:=ge1 (EH h (JU _ _)) h2 e
theorem D6 (h:x<=y+1) (h1:y=z) (h2:z<m) (e:Ev m n=true):x<=n:=ge0 e (EH h (h1▸h2))
theorem Dk (h:y<m) (e:Ev m n=true):1+y<=n:=ge0 e (Gz 1 y▸h)
theorem Cu (h:y<=m) (e:Ev (1+m+1) n=true):1+y+1<=n:=ge0 e (GK (FJ h 1))
theorem CR (h:y<=m) (e:Ev (1+m) n=true):1+y<=n:=ge0 e (FJ h 1)
theorem BC (h:x<=y) (h2:y<m) (e:Ev (1+2 * m) n=true):1+2 * x<=n:=ge0 e (FJ (Gb 2 (EH h (El h2))) 1)
theorem Dz (h:x<=y) (h2:y<m) (e:Ev (1+2 * m+1) n=true):1+2 * x+1<=n:=ge0 e (GK (BC h h2 (Nat.ble_self_eq_true _)))
theorem Cn (h:x<=k+y) (h2:y<=m) (e:Ev (k+m) n=true):x<=n:=ge0 e (EH h (FJ h2 k))
theorem Dx (h:p/\x<=y+z) (h1:y<=k) (h2:z<=m) (e:Ev (k+m) n=true):x<=n:=ge0 e (EH h.2 (Gn h1 h2))
theorem BG (h:x<=y * k) (h1:y<=m) (e:Ev (m * k) n=true):x<=n:=ge0 e (EH h (Iv k h1))
theorem Bw (h:x<=y * k) (h0:y=z) (h1:z<=m) (e:Ev (m * k) n=true):x<=n:=BG h (h0▸h1) e
theorem CT (h:y<m) (e:Ev (m+(m+1) * k) n=true):y+(y+1) * k<=n:=ge0 e (Gn (El h) (Iv k (GK (El h))))
theorem Cj (h:x<=y) (h2:y<z) (h3:z<=m) (e:Ev m n=true):x+1<=n:=ge0 e (EH (Er h h2) h3)
theorem D7 (h:x+1<=y) (h2:y<=m) (e:Ev m n=true):x<n:=ge1 h h2 e
theorem DO (h:x<=m) (e:Ev (m+1) n=true):x+1<=n:=ge0 e (GK h)
theorem Cd (h:x+k<=y) (h2:y<=m) (e:Ev m n=true):x<=n:=ge1 (EH (EP x k) h) h2 e
theorem Ci (h1:a<=4) (h2:b<=4) (h3:c<=4) (h4:d<=4):a+(b+(c+(d+0)))<=16:=Gn h1 (Gn h2 (Gn h3 h4))
theorem lt1 (h:x=y) (h2:y<m) (e:Ev m n=true):x<n:=E8 (h▸h2) (EW e)
theorem lt2 (h:x=y) (h2:y<=m) (e:Ev (m+1) n=true):x<n:=ge0 e (GK (h▸h2))
theorem lt3 (h:y=x) (h2:y<m):x<m:=h▸h2
theorem lt4 (h:x=m) (e:Ev (k+1) m=true):k<x:=h▸EW e
theorem lt5 (h:x=m) (h2:y<m):y<x:=h▸h2
theorem lt6 (h:z<y) (h1:y<m) (h2:x=m):z<x:=h2▸Ht h h1
theorem lt7 (h:z<y) (h1:y<m):z<m:=Ht h h1
theorem lt8 (h:y=x) (h2:z<y):z<x:=h▸h2
theorem lt9 (h:z<y) (h2:x=y+1):z<x:=h2▸HJ h
theorem CL (h:x<y+1) (h2:¬ x=y):x<y:=JV (G0 h) h2
theorem eq1 (h:x<y+1) (h2:¬ x<y):x=y:=HG (G0 h) (Jx h2)
theorem CO (h:x+1<y):x<y:=IY h
theorem DP (h:x<y):x - 1<y:=Er (JU _ _) h
theorem DM (h:x<y):x+1<y+1:=Nat.succ_lt_succ h
theorem Dy (h:x+1<y+1):x<y:=Nat.lt_of_succ_lt_succ h
theorem Ck (h:x<y):x<y+k:=E8 h (EP _ _)
theorem Bm:x<x+(k+1):=Nat.lt_succ_of_le (EP x k)
theorem Cg (h:x<=y):x<y+1:=Nat.lt_succ_of_le h
theorem DD (h:x<m) (h1:z=m) (h2:y<x):x - y+y<z:=h1▸(JW (El h2)).symm▸h
theorem Cc (h:p/\x<0+y/\q):x - 0<y:=HK y▸h.2.1
theorem CE (h:x+1<=m) (h2:y=x):y<m:=h2▸h
theorem Dw (h:(x<m/\p)/\q) (h2:y<x):y<m:=Ht h2 h.1.1
theorem Ct (h:x<=y) (h2:y<z):y - x<z - x:=Nat.sub_lt_sub_right h h2
theorem CS (h:x+(y+1)<=m):x+y<m:=h
theorem CH (h:y=x+(z+1)):x<y:=h▸Bm
theorem Dq (h:x<y):2 * x<2 * y:=Nat.mul_lt_mul_of_pos_left h (by decide)
theorem Co (h:x<y):2 * x+1<2 * y:=E8 (E6 _) (Gb 2 h)
theorem le1 (h:x<=y):x<=y+1:=Fl h
theorem le3 (h:n - x=k+1):x<n:=Nat.lt_of_sub_ne_zero (h▸HW k)
theorem le4 (h:n - (x+1)=0):n<=x+1:=KZ h
theorem yw (h:a * 8+b<=c * 8+d) (h2:d<8):a<=c:=G0 (Nat.lt_of_mul_lt_mul_right (a:=8) (Er (EH (EP _ b) h) (LL c 8▸HS h2 (c * 8))))
theorem le5 (h:a * 8+b<=c * 8+d) (h2:d<5):a<=c:=yw h (Ht h2 (by decide))
theorem le6 (h:x<=y):x<=y - z+z:=EH h (Nat.sub_le_iff_le_add.mp (EK _))
theorem le7:x<=x+k:=EP _ _
theorem le8:x<=x+1+k:=EH (Ej x) (EP _ _)
theorem le9 (h:x<=y):x+1<=y+1:=GK h
theorem BH (h:x<=y+1+z):x<=y+(z+1):=F5 y 1 z▸h
theorem Di (h:x+(y+1)<=z):x+1+y<=z:=F5 x 1 y▸h
theorem DU (h:x+(y+z)<=d):x+y<=d:=EH (FJ (EP y z) x) h
theorem Db (h:x+(y+z)<=d):x+y+z<=d:=FC x y z▸h
theorem Dg (h:x<=y) (h2:x+1=z):z<=y+1:=h2▸GK h
theorem D1 (h:x<=y) (h2:0<z):x+1<=y+z:=Gn h h2
theorem C8 (h:x<=y) (h2:y<z):x+1<=z:=Er h h2
theorem DW (h:c<=d+a) (h2:a<=b):c<=d+b:=EH h (FJ h2 d)
theorem CP (h:a<b) (h2:c+b<=d):c+1+a<=d:=EH (F5 c 1 a▸FJ h c) h2
theorem Bv (h:p/\x<=y+d) (h2:q/\y<=z+1):x<=z+(d+1):=BH (EH h.2 (Fb h2.2 d))
theorem CD (h:p/\f<=b+g) (h2:q/\b<=c+d):f<=c+(g+d * 1):=EH h.2 (EH (Fb h2.2 g) (Ec ((FC c d g).trans (congrArg (c + ·) ((Gz d g).trans (congrArg (g + ·) (Li d).symm))))))
theorem Dt (h:a<=b+c) (h2:c<=d) (h3:e=b+d+d+1):a<=e:=h3▸EH h (EH (FJ h2 b) (EH (EP _ d) (Ej _)))
theorem Cz (h:a<=b * k) (h2:c<=k):c+a<=(b+1) * k:=LL b k▸Gz c a▸Gn h h2
theorem CJ (h:a<=b * k):a+b * 1<=b * (k+1):=Gn h (Ec (Li b))
theorem Bu (h:a<=b/\b<c) (h2:d<=c - (b+1)):d+1<=c - a:=E8 (Er h2 (JH h.2 (E6 b))) (Nat.sub_le_sub_left h.1 c)
theorem C1:4 - x<=4:=JU _ _
theorem Cm (h:x<=y):0+x<=y:=(HK x).symm▸h
theorem By (h:x=y):x<=y:=Ec h
theorem Dv (h:x<=m):x+(m - x)<=m:=Ec (HL h)
theorem Dh (h:x<y):x<=y:=El h
theorem Ch:x<=y\/y<=x:=IZ x y
theorem CZ:i<=j\/j<=i:=Int.le_total i j
theorem D4:2+2 * x<=3+2 * x+y:=EH (Fb (Ej 2) _) (EP _ _)
theorem CN:2<=2+2 * x+y:=EH (EP 2 _) (EP _ _)
theorem DC:x<=x+4+2 * y:=EH (EP x 4) (EP _ _)
theorem Ce (h:x<=y) (h2:z=x):z<=y:=h2▸h
theorem no1 (h:y<=x) (h2:x<y):False:=Nat.not_le_of_lt h2 h
theorem no2 (h:x+k<x):False:=Nat.not_lt_of_le (EP x k) h
theorem no3 (h:x+k+y<x):False:=no2 (k:=k+y) (FC x k y▸h)
theorem no4 (h:0=x+1):False:=HW x h.symm
theorem zD {α:Type u1} {x:α} {P:Prop} (h:x∈([]:List α)):P:=absurd h Fe
theorem jI {α:Type u1} {p:α->Prop}:∀ x,x∈([]:List α)->p x:=fun zz h=>zD h
theorem no5 (h:x+7=y+k) (h2:y<=m) (e:Ev (m+k) 6=true):False:=K4 6 (EH (JD 7 x) (h▸EH (Fb h2 k) (EW e)))
theorem no9 (h:x+2+2 * y=x+3+2 * z):False:=absurd ((Nat.mul_mod_right 2 y).symm.trans ((congrArg (· % 2) (JI (h.trans (FC (x+2) 1 (2 * z))))).trans (Nat.add_mul_mod_self_left 1 2 z))) (by decide)
theorem D5 (h:x=y+1) (h1:x+1<=z) (h2:z<y):False:=Hu (IY (Eq.mp (congrArg (· + 1<=z) h) h1)) h2
theorem Bs (h:x=y+1) (h0:y=z) (h1:x+1<=z):False:=K4 z (G6 (Eq.mp (congrArg (· + 1<=z) (h.trans (congrArg (· + 1) h0))) h1))
theorem CQ (h:¬ c<b) (h1:a+2<=b) (h2:c=a+1):False:=h (h2▸h1)
theorem Cq (h:¬ c<b) (h1:a+2<=b) (h2:c<a):False:=h (E8 h2 (EH (EP a 2) h1))
theorem tJ (h:x+2=x+k) (e:LM 2 k=false):False:=Nat.ne_of_beq_eq_false e (JI h)
theorem DQ (h:x+2=x+4\/x+2=x+3\/x+2=x\/x+2=x+1):False:=h.elim (tJ · rfl) (·.elim (tJ · rfl) (·.elim (tJ (k:=0) · rfl) (tJ · rfl)))
theorem D3 (h:x<y) (h1:y<=z) (h2:z<=x):False:=Nat.not_lt_of_le (EH h1 h2) h
theorem CY (h:x<y) (h2:y=x):False:=FG h h2.symm
theorem CM (h:x+(0 - 1)+1=y) (h2:(y:Int)=x):False:=Ij x (h.trans (IQ.inj h2))
theorem eq3:x+(2+2 * y)=x+2+2 * y:=(FC ..).symm
theorem eq4:x+(y+1)=x+1+y:=F5 x y 1
theorem eq5:k+x=x+k:=Gz k x
theorem eq6:2 * x+1+1=2 * (x+1):=rfl
theorem eq7:2 * (x+1)=2 * x+1+1:=rfl
theorem eq8:2 * (x+1)+1=2 * x+1+1+1:=rfl
theorem eq9:2 * x+1+1=2+2 * x:=Gz (2 * x) 2
theorem C9:a+b * 1+1 * (b+1)=a+b+b+1:=by rw [Li,Nat.one_mul];rfl
theorem DB:x+(y+1+1+1+1)=x+4+y:=F5 x y 4
theorem Dj:x+2+2 * y+1=x+3+2 * y:=F5 (x+2) (2 * y) 1
theorem CG:x+(2+2 * y+(z+1))=x+3+2 * y+z:=(FC x _ _).symm.trans ((congrArg (· + (z+1)) (FC x 2 (2 * y)).symm).trans ((F5 (x+2+2 * y) 1 z).symm.trans (congrArg (· + z) (F5 (x+2) (2 * y) 1))))
theorem DN:3+2 * x+y - (2+2 * x)=y+1:=(congrArg (· - (2+2 * x)) ((congrArg (· + y) (F5 2 1 (2 * x))).trans (F5 (2+2 * x) 1 y))).trans (E4 (2+2 * x) (y+1))
theorem Du:c+(b+(d - e))=c+b+(d - e):=(FC ..).symm
theorem D8 (h:x<y):x+(y - x)=y:=HL (El h)
theorem Dr (h:x<=y):x+(y - x)=y:=HL h
theorem Cp (h:x<m+1):x+(m - x)=m:=HL (G0 h)
theorem DY (h:n - x=k+1):x+k+1=n:=(h▸HL (El (le3 h)):x+(k+1)=n)
theorem DS (h:x+1+1+1<=y):y=y - 1+1:=(Nat.succ_pred (I4 (E8 (LN _) h))).symm
theorem DX (h:2<=x):x=x - 2+2:=(JW h).symm
theorem D9 (h:x=y+1):x - 1=y:=congrArg Nat.pred h
theorem C5 (h:x+1=y+1):x=y:=K5.inj h
theorem DG:x+1=y+1↔x=y:=Nat.succ_inj
theorem DL (h:x=1) (h2:y<x):y=0:=Nat.lt_one_iff.mp (h▸h2)
theorem DJ (h:x<=y) (h2:x ≥ y):x=y:=HG h h2
theorem C4 (h:n - x=0) (h2:x<=n):x=n:=HG h2 (KZ h)
theorem Br (h:a<8) (h1:b<8) (h2:c * 8+a=d * 8+b):c=d:=HG (yw (Ec h2) h1) (yw (Ec h2.symm) h)
theorem Dm (h:a<8) (h1:b<8) (h2:c * 8+a=d * 8+b):a=b:=JI (Br h h1 h2▸h2)
theorem Ds (h:x=5) (h2:y+1<5):min y x+(x - (y+2)+1+1)=5:=by
 subst h;rw [Hg (El (IY h2))];exact (congrArg (y + ·) (Gz _ 2)).trans ((FC y 2 _).symm.trans (HL h2))
theorem if1 (h:a<8) (h1:b<8) (h2:(c:Int)≠d):c * 8+a<d * 8+b↔(c:Int)<d:=⟨fun h=>Int.lt_iff_le_and_ne.mpr ⟨H9.mpr (yw (El h) h1),h2⟩,fun g=>E8 (LL c 8▸HS h (c * 8)) (EH (Iv 8 (Gl.mp g)) (EP _ b))⟩
theorem if2 (h:(a:Int)=b):a * 8+c<b * 8+d↔(c:Int)<d:=by
 cases IQ.inj h;exact Nat.add_lt_add_iff_left.trans Gl.symm
theorem if3:(x:Int)=y↔x=y:=Int.ofNat_inj
theorem if4:(x:Int)<y↔x<y:=Gl
theorem or0 (h:n=z+5) (h2:b=z+k) (e:Ev (k+1) 5=true):z<=b/\b<n:=h▸h2▸⟨EP z k,HS (EW e) z⟩
theorem or1 (h:n=z+5) (h2:b=z+4\/b=z+3\/b=z\/b=z+1):z<=b/\b<n:=h2.elim (or0 h · rfl) (·.elim (or0 h · rfl) (·.elim (or0 (k:=0) h · rfl) (or0 h · rfl)))
theorem Cb:∀ x,x<=5->2<=x->(x=2\/x=3\/x=4\/x=5):=by decide
theorem or2 (h:2<=x) (h2:x<=5):x=2\/x=3\/x=4\/x=5:=Cb x h2 h
theorem gg {t:Nat} (e:Ev k q0=true) (h:m<n) (r:d+q0 * n+t<L):d+k+q0 * m+t<L:=Er (Fb (EH (Ec (FC d k _)) (FJ (EH (Fb (EW e) _) (EH (Ec (Gz q0 (q0 * m))) (Gb q0 h))) d)) t) r
theorem g0 {t:Nat} (h:m<=n) (r:d+q0 * n+t<L):d+q0 * m+t<L:=Er (Fb (FJ (Gb q0 h) d) t) r
theorem ro0 (h:m<=n) (r:d+4 * n+20<L):d+4 * m+20<L:=g0 h r
theorem ro1 (h:m<n) (r:d+4 * n+20<L):d+4 * m+20<L:=g0 (El h) r
theorem ro2 (h:m<n) (r:d+4 * n+20<L):d+1+4 * m+20<L:=gg rfl h r
theorem ro3 (r:d+4 * n+20<L):d<L:=Er (EH (EP d _) (EP _ 20)) r
theorem ro4 (r:d+4 * (m+1)+20<L):d+4 * m+20<L:=g0 (Ej m) r
theorem ro5 (r:d+4 * (m+1)+20<L):d+1+4 * m+20<L:=gg rfl (E6 m) r
theorem ro6 (h:a<=d+1) (r:d+4 * (m+1)+20<L):a+4 * m+20<L:=Er (Fb (Fb h _) 20) (ro5 r)
theorem ro7 (h:m+2<=n) (r:d+4 * n+20<L):d+4 * (m+1)+20<L:=g0 (G6 h) r
theorem un0 (h:m<=n) (r:d+16 * n+200<L):d+16 * m+200<L:=g0 h r
theorem un1 (h:m<n) (r:d+16 * n+200<L):d+16 * m+200<L:=g0 (El h) r
theorem un2 (h:m<n) (r:d+16 * n+200<L):d+1+16 * m+200<L:=gg rfl h r
theorem un3 (h:m<n) (r:d+16 * n+200<L):d+1+1+16 * m+200<L:=gg (k:=2) rfl h r
theorem un4 (h:m<n) (r:d+16 * n+200<L):d+4+16 * m+200<L:=gg rfl h r
theorem un5 (r:d+16 * (m+1)+200<L):d+1+16 * m+200<L:=gg rfl (E6 m) r
theorem un6 (r:d+16 * (m+1)+200<L):d+3+16 * m+200<L:=gg rfl (E6 m) r
theorem un7 (h:m+2<=n) (r:d+16 * n+200<L):d+1+1+16 * (m+1)+200<L:=gg (k:=2) rfl h r
theorem un8 (r:d+16 * n+200<L):d+200<L:=Er (Fb (EP d _) 200) r
theorem un9 (r:d+200<L):d+64<L:=Er (FJ (by decide) d) r
theorem DH (h:c<=64) (r:d+200<L):d+1+min k c<L:=Er (EH (FJ (EH (Jw _ _) h) (d+1)) (EH (Ec (FC d 1 64)) (FJ (by decide) d))) r
theorem Cy (h:a=d+1) (r:d+16 * (m+1)+200<L):a+16 * m+200<L:=h▸un5 r
theorem fi1 (h:x<=m) (e:Ev m 1000000=true):(x:Int)<2 ^ 63:=Ha (H9.mpr (ge0 e h)) (by decide)
theorem fi2 (h:x<m) (e:Ev m 1000000=true):(x:Int)<2 ^ 63:=fi1 (El h) e
theorem fi3 (h:x<y) (h2:y<=m) (e:Ev m 1000000=true):(x:Int)<2 ^ 63:=fi1 (EH (El h) h2) e
theorem fi4 (h:x=y) (h2:y<=m) (e:Ev m 1000000=true):(x:Int)<2 ^ 63:=fi1 (h▸h2) e
theorem fi5:(-2 ^ 62:Int)<=(x:Int):=JL (by decide) (E7 x)
theorem fi6 (h:x<=m) (e:Ev m 1000000=true):(x:Int)<2 ^ 62:=Ha (H9.mpr (ge0 e h)) (by decide)
theorem fi8 (h:x<=y) (h2:y<=m) (e:Ev m 1000000=true):(x:Int)<2 ^ 63:=fi1 (EH h h2) e
theorem fi9 (h:x<=z) (h1:z<=y) (h2:y<=m) (e:Ev m 1000000=true):(x:Int)<2 ^ 63:=fi8 h (EH h1 h2) e
theorem Cs (h:x<=z) (h1:z<y) (h2:y<=m) (e:Ev m 1000000=true):(x:Int)<2 ^ 63:=fi9 h (El h1) h2 e
theorem Bx (h:x<y) (h2:y=m) (e:Ev m 1000000=true):(x:Int)<2 ^ 63:=fi3 h (Ec h2) e
theorem Cv (h:x+1<y) (h2:y<=m) (e:Ev m 1000000=true):(x:Int)+1<2 ^ 63:=fi3 h h2 e
theorem CX (h:x+1<y) (h2:y<=m) (e:Ev m 1000000=true):(x:Int)<2 ^ 63:=fi3 (IY h) h2 e
theorem Cf (h:x<=y - k) (h2:y<=m) (e:Ev m 1000000=true):(x:Int)<2 ^ 63:=fi8 (EH h (JU _ _)) h2 e
theorem DI (h:x<m) (e:Ev m 1000000=true):(x:Int)<2 ^ 62:=fi6 (El h) e
theorem Bz (h:x<y) (h2:y<=m) (e:Ev m 1000000=true):(x:Int)<2 ^ 62:=fi6 (EH (El h) h2) e
theorem Cw:((x % 6:Nat):Int)<2 ^ 63:=fi2 (Nat.mod_lt x (by decide)) rfl
theorem Dn (h:(x:Int)<2 ^ 63):(x:Int) - 1<2 ^ 63:=Ha (Int.sub_le_self _ (by decide)) h
theorem Ca (h:x<y) (h2:(y:Int)<i):(x:Int)<i:=LP (Gl.mpr h) h2
theorem nn0:0<=(x:Int):=E7 x
theorem nn1:0<=(x:Int)+1:=E7 (x+1)
theorem nn2 (h:0<=i):-2 ^ 63<=i:=JL (by decide) h
theorem nn3 (h:0<=i) (h2:i<=1000):-9223372036854775808<=i/\i<9223372036854775808:=⟨nn2 h,Ha h2 (by decide)⟩
theorem nn4 (h:i<=1000):1 * i.toNat<=1000:=EH (Ec (Nat.one_mul _)) (Int.toNat_le.mpr h)
theorem nn5 (h:x=y+1):-(x:Int)<=-1:=Int.neg_le_neg (H9.mpr (h▸LN y))
theorem nn6 (h:x≠0):0<=(x:Int) - 1:=K6 (H9.mpr (Nat.pos_of_ne_zero h))
theorem mo1:x % 6<6:=Nat.mod_lt x (by decide)
theorem mo2:((x % 6:Nat):Int).toNat<6:=mo1
theorem mo3:(x:Int) % 6=((x % 6:Nat):Int):=rfl
theorem tn1:((a:Nat):Int).toNat=a:=rfl
theorem tn2:((a:Int) - 1).toNat=a - 1:=Int.pred_toNat a
theorem tn3:(4 - (a:Int)).toNat=4 - a:=Int.toNat_sub 4 a
theorem tn4 (h:x=y+1):(-1+(x:Int)).toNat=y:=h▸congrArg Hv ((congrArg (-1 + ·) (Int.add_comm (y:Int) 1)).trans (Int.neg_add_cancel_left 1 y))
theorem tn5 (h:i.toNat<x) (h2:y=x):i<(y:Int):=h2▸Ha (Int.self_le_toNat i) (Gl.mpr h)
theorem tn6 (h0:0<=i) (h:i.toNat<x) (h2:y=x):0<=i/\i<(y:Int):=⟨h0,tn5 h h2⟩
theorem tn7 (h0:0<=i) (h:i<4):i.toNat<4:=(Int.toNat_lt h0).mpr h
theorem DF (h:¬ j<i):((i - j).toNat:Int)=0:=congrArg IQ (Int.toNat_of_nonpos (Int.sub_nonpos_of_le (Int.not_lt.mp h)))
theorem C6 (h:j<i):((i - j).toNat:Int)=i - j:=Kp (K6 (Int.le_of_lt h))
theorem ca1 (h:(x:Int)=y):x=y:=IQ.inj h
theorem ca2 (h:(x:Int)=y):y=x:=(IQ.inj h).symm
theorem ca3 (h:x=y):(x:Int)=y:=congrArg IQ h
theorem ca4 (h:x<=y):(x:Int)<=y:=H9.mpr h
theorem ca5 (h:(x:Int)<y):x<y:=Gl.mp h
theorem ca6 (h:x+1<y):(x:Int)+1<y:=Gl.mpr h
theorem ca7:((x+1:Nat):Int) - 1=x:=Int.add_sub_cancel x 1
theorem ca8:i+((x:Int)+1)=i+x+1:=(Int.add_assoc ..).symm
theorem ca9:i+(x:Int) * 1=i+x:=congrArg (i + ·) (Int.mul_one _)
theorem Dd (h:0<y):(x:Int)<x+y:=Gl.mpr (Jy h)
theorem Df (h:a+1=b+c):(d:Int)+b+c=((d+1:Nat):Int)+a:=congrArg IQ ((FC d b c).trans ((congrArg (d + ·) h.symm).trans (F5 d a 1)):d+b+c=d+1+a)
theorem CK (h:x<y) (h2:¬ x+1<y):(y:Int)=x+1:=congrArg IQ (HG (Jx h2) h)
theorem CW (h:¬ 0<(x:Int)):x=0:=Nat.eq_zero_of_not_pos fun g=>h (Gl.mpr g)
theorem C7 (h:(x:Int)=0):x=0:=IQ.inj h
theorem om1 (h:x<=m) (e:Ev m n=true):x<=n:=EH h (EW e)
theorem om2 (h:x<m) (e:Ev m n=true):x<n:=E8 h (EW e)
theorem om3 (h:x<m) (e:Ev m (n+1)=true):x<=n:=G0 (om2 h e)
theorem om4 (h:x<=m) (e:Ev (m+1) n=true):x<n:=Er h (EW e)
theorem om5 (h:x=m) (e:Ev m n=true):x<=n:=om1 (Ec h) e
theorem su2 (h:n - x=k+1):x<n:=le3 h
end
theorem RN {h:Heap} {motive:∀ (v:Value) (as:List Addr),Reads h v .none as->Prop} (none:motive .none [] .none) {v as} (r:Reads h v .none as):motive v as r:=by cases r;exact none
theorem RB {h:Heap} {b:Bool} {motive:∀ (v:Value) (as:List Addr),Reads h v (.bool b) as->Prop} (bool:motive (.bool b) [] (.bool b)) {v as} (r:Reads h v (.bool b) as):motive v as r:=by cases r;exact bool
theorem RI {h:Heap} {i:Int} {motive:∀ (v:Value) (as:List Addr),Reads h v (.int i) as->Prop} (int:∀ t,motive (.int i t) [] (.int i t)) {v as} (r:Reads h v (.int i) as):motive v as r:=by cases r;exact int _
theorem RS {h:Heap} {x:Str} {motive:∀ (v:Value) (as:List Addr),Reads h v (.str x) as->Prop} (str:∀ t,motive (.str x t) [] (.str x t)) {v as} (r:Reads h v (.str x) as):motive v as r:=by cases r;exact str _
theorem RL {h:Heap} {xs:List PyData} {motive:∀ (v:Value) (as:List Addr),Reads h v (.list xs) as->Prop} (list:∀ {a o vs n as} (ho:h.get? a=some o) (hc:o.cls=.type "list") (hd:o.data=.seq vs n) (hr:FZ h vs.toList xs as),motive (.ref a) (a :: as) (.list ho hc hd hr)) {v as} (r:Reads h v (.list xs) as):motive v as r:=by cases r with | list a b c d=>exact list a b c d
theorem RT {h:Heap} {xs:List PyData} {motive:∀ (v:Value) (as:List Addr),Reads h v (.tuple xs) as->Prop} (tuple:∀ {a o vs n as} (ho:h.get? a=some o) (hc:o.cls=.type "tuple") (hd:o.data=.seq vs n) (hr:FZ h vs.toList xs as),motive (.ref a) as (.tuple ho hc hd hr)) {v as} (r:Reads h v (.tuple xs) as):motive v as r:=by cases r with | tuple a b c d=>exact tuple a b c d
theorem RA0 {h:Heap} {motive:∀ (vs:List Value) (as:List Addr),FZ h vs [] as->Prop} (nil:motive [] [] .nil) {vs as} (r:FZ h vs [] as):motive vs as r:=by cases r;exact nil
theorem RA1 {h:Heap} {d:PyData} {ds:List PyData} {motive:∀ (vs:List Value) (as:List Addr),FZ h vs (d :: ds) as->Prop} (cons:∀ {v vs as bs} (r:Reads h v d as) (rs:FZ h vs ds bs),motive (v :: vs) (as++bs) (.cons r rs)) {vs as} (r:FZ h vs (d :: ds) as):motive vs as r:=by cases r with | cons a b=>exact cons a b
section
open Lean
def foL {α β:Type} (f:β->α->β):List α->β->β
 | [],b=>b
 | x :: r,b=>foL f r (f b x)
def sx (s:String):Syntax:=
 let put (st:List (Array Syntax)) (w:String):List (Array Syntax):=match w,st with
  | "",st=>st
  | w,x :: r=>x.push (mkAtom w) :: r
  | _,[]=>[]
 let (st,w):=foL (fun (st,w) (c:Char)=>
  if c == '(' then (#[] :: put st w, "")
  else if c == ')' then (match put st w with
   | x :: y :: r=>y.push (mkNullNode x) :: r
   | st=>st, "")
  else if c == ' ' || c == '\n' then (put st w, "")
  else (st,w.push c)) s.toList (([#[]], ""):List (Array Syntax)×String)
 mkNullNode ((put st w).headD #[])
def mT (k:String) (xs:Array Syntax):Syntax:=mkNode (`Lean.Parser.Tactic++k.toName) (#[mkAtom k]++xs)
def mE (k:String) (xs:Array Syntax):Syntax:=mkNode (`Lean.Parser.Term++k.toName) xs
def mN (k:Name) (xs:Array Syntax):Syntax:=mkNode k xs
def sq (ts:Array Syntax):Syntax:=mN `Lean.Parser.Tactic.tacticSeq #[mN `Lean.Parser.Tactic.tacticSeq1Indented #[mkNullNode (mkSepArray ts (mkAtom ";"))]]
def bt (f:Array Syntax->Syntax) (v:Array Syntax):Nat->Syntax->Syntax
 | n+1,x=>
  let w:=match x with | .atom _ s=>s | _ => ""
  let d (s:String):Syntax:=v.getD (s.drop 1).toString.toNat! .missing
  if w == "" then
   let k:=match x.getArg 0 with | .atom _ s=>s | _ => ""
   let ys:=foL (fun a y=>a.push (bt f v n y)) (x.getArgs.extract 1 x.getNumArgs).toList #[]
   if k == "n" then mkNullNode ys
   else if k == "s" then f ys
   else if k == "g" then mkNode `group #[x,f ys]
   else mkNode ((if k.front == 'T' then `Lean.Parser.Tactic else if k.front == 'E' then `Lean.Parser.Term else `Lean)++(k.drop 2).toString.toName) ys
  else if w.front == '$' then d w
  else if w.front == '`' then mkIdent (w.drop 1).toString.toName
  else mkAtom w
 | _,x=>x
def T (s:String) (v:Array Syntax):Syntax:=bt sq v 20 ((sx s).getArg 0)
def tw (s:String):Syntax:=mN `PySem.W.tacticWtm_at_ #[mkAtom "wtm_at",Syntax.mkStrLit s]
def fo {β:Type} (f:β->Syntax->β) (b:β) (xs:Array Syntax):β:=foL f xs.toList b
def mpL (f:Syntax->Syntax):List Syntax->Array Syntax->Array Syntax
 | [],a=>a
 | x :: r,a=>mpL f r (a.push (f x))
def mp (f:Syntax->Syntax) (xs:Array Syntax):Array Syntax:=mpL f xs.toList #[]
def hd0 (x:Syntax):String:=match x with | .atom _ s=>s | _ => ""
def br (l:String) (xs:Array Syntax) (r:String):Array Syntax:=#[mkAtom l,mkNullNode (mkSepArray xs (mkAtom ",")),mkAtom r]
def nl:Syntax:=mkNullNode
def oc:Syntax:=mN `Lean.Parser.Tactic.optConfig #[nl]
def ap (f:Syntax) (xs:Array Syntax):Syntax:=if xs.isEmpty then f else mE "app" #[f,mkNullNode xs]
def idn (s:String):Syntax:=mkIdent s.toName
def nth (x:Syntax) (i:Nat):Syntax:=x.getArg i
def abr (s:String):String:=match s with
 | "%a" => "by assumption"
 | "%k" => "by kr"
 | "%w" => "by wr"
 | "%i" => "by iw rfl"
 | "%j" => "by iw wr"
 | "%2" => "by iw iw rfl"
 | _ => "by iw (e (< _ rfl))"
def tbl:String := "'_ c x (E.hole _)
'rfl c x (T.tacticRfl rfl)
'wr c x (T.withUnfoldingAll x (s (T.tacticRfl rfl)))
'iw c x (T.intro x (n (E.hole _)))
'dk c x (T.decide x (T.optConfig (n (T.configItem (T.posConfigItem + `kernel)))))
'om c x (T.omega x (T.optConfig (n)))
'decide c x (T.decide x (T.optConfig (n)))
:by c $0 (E.byTactic x $1)
:< t $0 (E.anonymousCtor x $0 x)
:fun t $0 (E.fun x (E.basicFun (n (E.hole _)) (n) x $2))
e t $0 (T.exact x $2)
; c $0 (T.paren x $1 x)
red c $0 (T.withReducible x $1)
all c $0 (T.allGoals x $1)
try c $0 (T.tacticTry_ x $1)
first c (g $0) (T.first x $3)
rw t (T.rwRule (n) $0) (T.rwSeq x (T.optConfig (n)) (T.rwRuleSeq x $0 x) (n))
simp t (T.simpLemma (n) (n) $0) (T.simp x (T.optConfig (n)) (n) (n only) (n x $0 x) (n))
dsimp t (T.simpLemma (n) (n) $0) (T.dsimp x (T.optConfig (n)) (n) (n only) (n x $0 x) (n))"
def row (t s:String):Option Syntax:=((t.splitOn "\n").find? (·.startsWith (s ++ " "))).map sx
def it (f:Name->Name):Nat->Bool->Syntax->Syntax
 | n+1,b,x=>
  let nm (s:String):Syntax:=if s.front == '^' then idn (s.drop 1).toString else mkIdent (f s.toName)
  let s:=hd0 x
  let c:=s.front
  let ys:=x.getArgs
  let xs:=ys.extract 1 ys.size
  let h:=hd0 (nth x 0)
  let cs (y:Syntax) (zs:Array Syntax):Syntax:=T "(T.case x (n (T.caseArg (L.binderIdent $0) (n))) x $1)" #[nm (hd0 y),sq (mp (it f n false) zs)]
  let rw?:=row tbl (if s != "" then "'" ++ s else if b then ":" ++ h else h)
  if b && c == '?' then T "(E.syntheticHole ? $0)" #[if s == "?_" then mkAtom "_" else nm (s.drop 1).toString]
  else if b && c == '%' then it f n true (sx (abr s))
  else if b && c.isDigit then Syntax.mkNumLit s
  else if !b && s != "" && c.isUpper then tw s
  else if s == "kr" then mN ``tacticKernel_rfl #[mkAtom s]
  else match (if b && s != "" && s != "_" then none else rw?) with
  | some r=>
   let zs:=mp (it f n (hd0 (nth r 1) == "t")) xs
   let zs:=mp (fun z=>bt sq #[z] 9 (nth r 2)) zs
   bt sq #[mkNullNode (mkSepArray zs (mkAtom ",")),sq zs,zs.getD 0 .missing,mkNullNode zs] 20 (nth r 3)
  | none=>
   if s != "" then (if b then idn s else mT s #[nl])
   else if b then ap (it f n true (nth x 0)) (mp (it f n true) xs)
   else if h == "r" then T "(T.paren x $0 x)" #[sq (#[T "(T.refine' x $0)" #[it f n true xs[0]!]]++mp (fun y=>cs (nth y 0) (y.getArgs.extract 1 y.getNumArgs)) (xs.extract 1 xs.size))]
   else if h == "c" then cs (nth x 1) (xs.extract 1 xs.size)
   else
    let hc:=h.front
    let (as,ts):=fo (fun (as,ts) x=>
     let w:=((hd0 x).drop 1).toString
     let k := "k" ++ toString as.size
     if (hd0 x).front == '=' then (as.push (it f n true (if w == "a" then mkAtom "%a" else if w == "_" then mkAtom "?_" else if w == "rfl" then mkAtom w else if w.front == ':' then mkAtom (w.drop 1).toString else mkNullNode #[mkAtom w,mkAtom "%a"])),ts)
     else (as.push (it f n true (mkAtom ("?" ++ k))),ts.push (cs (mkAtom k) #[x]))) ((#[],#[]):Array Syntax×Array Syntax) xs
    let g:=ap (idn (if hc == '!' || hc == '~' then (h.drop 1).toString else h)) as
    let r:=T "(T.paren x $0 x)" #[sq (#[T "(T.refine' x $0)" #[if hc == '~' then ap (idn "OpG.of2") #[g] else g]]++ts)]
    if hc == '!' then r else T "(T.withReducible x (s $0))" #[r]
 | _,_,x=>x
def wt (t s:String):MacroM (TSyntax `tactic):=do
 let some l:=(t.splitOn "\n").find? fun l=>l.startsWith (s ++ " ") | Macro.throwUnsupported
 let xs:=(sx (l.drop (s.length+1)).toString).getArgs
 let m <- MonadQuotation.getContext
 let k <- MonadQuotation.getCurrMacroScope
 return ⟨it (Lean.addMacroScope m · k) 30 false (if xs.size==1 then xs[0]! else mkNullNode (#[mkAtom "first"]++xs))⟩
def mO (p v:Syntax):Syntax:=T "(T.obtain x (n $0) (n) (n x (n $1)))" #[p,v]
def ob (p v:Syntax):Syntax:=
 let rc:=T "(T.rcases x (n (T.elimTarget (n) $1)) (n with (T.rcasesPatLo $0 (n))))" #[p,v]
 let tu:=(p.getArg 0).getArg 0
 if !(tu.getKind == `Lean.Parser.Tactic.rcasesPat.tuple) || (p.getArg 0).getNumArgs != 1 then rc else
 let ps:=(tu.getArg 1).getSepArgs
 let n:=ps.size
 let vn:=v.getId
 let b:=if v.isIdent && vn.toString.startsWith "z'" then vn.toString ++ "'" else "z'"
 let z (i:Nat):=idn (b++toString i)
 let isV (t:Syntax):=t.isIdent && t.getId==vn
 let clr:=if v.isIdent then #[T "(T.tacticTry_ x (s (T.clear x (n $0))))" #[v]] else #[]
 let med (xs:Array Syntax):Syntax:=T "(T.rcasesPatMed (n (T.rcasesPat.tuple x $0 x)))" #[mkNullNode (mkSepArray xs (mkAtom ","))]
 if v.isIdent && (ps.any fun q=>(q.find? isV).isSome) then T "(T.paren x (s (T.revert x (n $0)) (T.intro x (n $1)) $2) x)" #[v,z n,mO p (z n)] else
 let alt (e:Bool) (k:Nat):Array Syntax:=
  let full:=if e then k+1==n else k==n
  let a:=if full then n else if e then k else k - 1
  let (xs,ts):=fo (fun (xs,ts) q=>
   let m:=q.getArg 0
   let o:=(m.getArg 0).getArg 0
   let y:=z xs.size
   if (m.getArg 0).getNumArgs==1 && o.getKind == `Lean.Parser.Tactic.rcasesPat.one then
    let i:=o.getArg 0
    if i.getId == `rfl then (xs.push y,ts.push (T "(T.subst x (n $0))" #[y])) else (xs.push i,ts)
   else if (m.getArg 0).getNumArgs==1 && (o.getKind == `Lean.Parser.Tactic.rcasesPat.ignore || o.getKind == `Lean.Parser.Tactic.rcasesPat.clear) then (xs.push (T "(E.hole _)" #[]),ts)
   else (xs.push y,ts.push (mO m y))) ((#[],clr):Array Syntax×Array Syntax) (ps.extract 0 a)
  let (xs,ts):=if full then (xs,ts) else (xs.push (z n),ts.push (mO (med (ps.extract a n)) (z n)))
  #[T "(T.refine x (E.app (E.explicit @ $0) $3))" #[idn ((if e then "exE" else "andE")++toString k),.missing,.missing,mkNullNode ((Array.range (if e then k+2 else k+1)).map (fun zz=>T "(E.hole _)" #[]) ++ #[v,T "(E.fun x (E.basicFun $0 (n) x (E.syntheticHole ? _)))" #[mkNullNode xs]])]]++ts
 let up (e:Bool):=Nat.rec (motive:=fun zz=>Array Syntax) #[] (fun k r=>if (if e then k+1<n else 1<=k && k<n) then #[mN `group #[mkAtom "|",sq (alt e (k+1))]]++r else r) 9
 if n<2 then rc else T "(T.first x $0)" #[mkNullNode (up true++up false ++ #[T "(g $0)" #[rc]])]
@[elab_as_elim] theorem rwE {α:Sort u} {a b:α} {motive:α->Prop} (h:a=b) (p:motive b):motive a:=h▸p
@[elab_as_elim] theorem rwS {α:Sort u} {a b:α} {motive:α->Prop} (h:b=a) (p:motive b):motive a:=h▸p
@[elab_as_elim] theorem rwI {a b:Prop} {motive:Prop->Prop} (h:a↔b) (p:motive b):motive a:=propext h▸p
@[elab_as_elim] theorem rwJ {a b:Prop} {motive:Prop->Prop} (h:b↔a) (p:motive b):motive a:=propext h▸p
def rwq (xs:Array Syntax):Syntax:=
 let one (r:Syntax):Syntax:=
  let t:=nth r 1
  let el:=T "(E.ellipsis x)" #[]
  let a:=if t.getKind == `Lean.Parser.Term.app then mE "app" #[nth t 0,mkNullNode ((nth t 1).getArgs.push el)] else ap t #[el]
  let k (e s:String):=T "(g (T.withReducibleAndInstances x (s (T.focus x (s (T.refine' x (E.app $0 (n $1 (E.syntheticHole ? _)))) (T.rotateRight x (n $2)))))))" #[idn (if (nth r 0).getNumArgs==0 then e else s),a,Syntax.mkNumLit "1"]
  T "(T.first x (n (g (T.failIfSuccess x (s (T.failIfSuccess x (s $0)))) (T.first x (n $1 $2 (g (T.fail x (n)))))) (g $0)))" #[T "(T.rewriteSeq x (T.optConfig (n)) (T.rwRuleSeq x (n $0) x) (n))" #[r],k "rwE" "rwS",k "rwI" "rwJ"]
 T "(T.paren x $0 x)" #[sq (mp one xs |>.push (T "(T.tacticTry_ x (s (T.withReducible x (s (T.tacticRfl rfl)))))" #[]))]
def pc:Nat->Syntax->Option Syntax
 | 0,_=>none
 | n+1,p=>
  if p.isIdent then (if p.getId.isAtomic then some (T "(T.rcasesPat.one $0)" #[p]) else none)
  else if p.isOfKind `Lean.Parser.Term.hole then some (T "(T.rcasesPat.ignore _)" #[])
  else if p.isOfKind `Lean.Parser.Term.anonymousCtor then
   (fo (fun (a:Option (Array Syntax)) x=>match a,pc n x with
    | some a,some y=>some (a.push (T "(T.rcasesPatLo (T.rcasesPatMed (n $0)) (n))" #[y]))
    | _,_=>none) (some #[]) (nth p 1).getSepArgs).map fun xs=>T "(T.rcasesPat.tuple x $0 x)" #[mkNullNode (mkSepArray xs (mkAtom ","))]
  else none
def mb (x p b:Syntax):Option Syntax:=
 if !p.isOfKind `Lean.Parser.Term.anonymousCtor || (b.find? (·.isOfKind `Lean.Parser.Term.syntheticHole)).isSome then none else
 (pc 9 p).map fun q=>T "(E.byTactic x (s $0 (T.exact x $1)))" #[ob (T "(T.rcasesPatMed (n $0))" #[q]) x,b]
def aR:Syntax:=T "(s (T.tacticRfl rfl))" #[]
def aI:Syntax:=T "(s (T.intro x (n (E.hole _))) (T.tacticRfl rfl))" #[]
def aJ:Syntax:=T "(s (T.intro x (n (E.hole _) (E.hole _))) (T.tacticRfl rfl))" #[]
def aK:Syntax:=T "(s (T.intro x (n (E.hole _) (E.hole _) (E.hole _))) (T.tacticRfl rfl))" #[]
def aU:Syntax:=T "(s (T.withUnfoldingAll x (s (T.tacticRfl rfl))))" #[]
def aV:Syntax:=T "(s (T.intro x (n (E.hole _))) (T.withUnfoldingAll x (s (T.tacticRfl rfl))))" #[]
def aW:Syntax:=T "(s (T.intro x (n (E.hole _) (E.hole _))) (T.withUnfoldingAll x (s (T.tacticRfl rfl))))" #[]
def aD:Syntax:=T "(s (T.decide x (T.optConfig (n))))" #[]
theorem sb1 {n i k:Nat} (h:n - i=k+1):n - (i+1)=k:=by rw [Nat.sub_add_eq,h,Nat.add_sub_cancel]
theorem sb2 {n i k:Nat} (h:n - i=k+1):i+1<=n:=Nat.lt_of_sub_pos (h▸LN k)
theorem sb3 {n i:Nat} (h:i<n):n - i=n - i - 1+1:=(JW (Nat.sub_pos_of_lt h)).symm
theorem sb5 {a n i:Nat} (h:i<n):a+(n - (i+1))<a+(n - i):=HS (JH h (E6 i)) a
theorem cs4 {i:Nat} (h:i<4):i=0\/i=1\/i=2\/i=3:=(by decide:∀ i,i<4->i=0\/i=1\/i=2\/i=3) i h
theorem gl1 {l r:Nat}:l+1+r - l=r+1:=by rw [FC,E4,Gz]
theorem ep1 {a b c d:Nat} (h:a * 8+c=b * 8+d) (h1:c<8) (h2:d<8):a=b:=
 have e:∀ a c,c<8->(a * 8+c) / 8=a:=fun a c h=>by rw [Gz,Nat.add_mul_div_right _ _ (by decide),Nat.div_eq_of_lt h,HK]
 (e a c h1).symm.trans ((congrArg (· / 8) h).trans (e b d h2))
theorem ex4 {i j:Nat} (h:∃ a,a<4 - i/\i+a=j):j<4:=h.elim fun zz h=>h.2▸Nat.add_lt_of_lt_sub' h.1
theorem cb7 {p v:Nat} (h:p<=4) (e:v+1+1+1+1+1+1+1=p+1+1):False:=by
 have e:v+1+1+1+1+1=p:=K5.inj (K5.inj e)
 subst e
 exact Iw _ (HA (HA (HA (HA h))))
theorem fc7 {b x:Nat}:b+5+x=b+4+(x+1):=by rw [F5,<- FC,F5 b 4]
theorem aa1 {i l:Nat}:i+1+l=i+(l+1):=(FC i 1 l).trans (congrArg (i + ·) (Gz 1 l))
theorem tr1 {a b c:Nat} (h:a<=b) (k:b<=c):a<=c:=EH h k
theorem tr2 {a b c:Nat} (h:a<b) (k:b<=c):a<c:=E8 h k
theorem tr3 {a b c:Nat} (h:a<=b) (k:b<c):a<c:=Er h k
theorem tr4 {a b c:Int} (h:a<=b) (k:b<=c):a<=c:=JL h k
def tA (y:Syntax):Syntax:=T "(E.typeAscription (E.hygienicLParen x $1) (E.syntheticHole ? _) x (n $0) x)" #[y,mN hygieneInfoKind #[mkIdent .anonymous]]
def sw (y:Syntax):Syntax:=T "(T.refine x $0)" #[tA y]
def hv (d:Syntax):Syntax:=
 let d:=nth d 0
 let y:=nth d 2
 let y:=if y.getNumArgs==0 then T "(E.hole _)" #[] else nth (nth y 0) 1
 T "(T.paren x (s (T.refine x (E.app $0 (n $1))) (T.intro x (n $2))) x)" #[tA (T "(E.arrow $0 x (E.hole _))" #[y]),nth d 4,nth (nth d 0) 0]
theorem nc {α:Type u} {P:Prop} (f:α->Nat) {a b:α} (h:a=b) (k:LM (f a) (f b)=false):P:=by
 subst h
 rw [Nat.beq_refl] at k
 cases k
theorem cs0 {α:Sort u} {P:Prop} {a:α} (_:a=a) (k:P):P:=k
theorem cs1 {α:Type u} {P:Prop} {a b:α} (h:some a=some b) (k:a=b->P):P:=k (GF.inj h)
theorem cs2 {α:Type u} {β:Type v} {P:Prop} {a c:α} {b d:β} (h:(a,b)=(c,d)) (k:a=c->b=d->P):P:=k (congrArg Prod.fst h) (congrArg Prod.snd h)
theorem cs3 {α:Type u} {P:Prop} {a c:α} {b d:List α} (h:a :: b=c :: d) (k:a=c->b=d->P):P:=k (HX.inj h).1 (HX.inj h).2
theorem EB {P:Prop} {a b:Addr} (h:Fj a=Fj b) (k:a=b->P):P:=k (Fj.inj h)
def cz (h:Syntax):Syntax:=
 let z:=mkIdent (h.getId.appendAfter "z")
 let sp (s e:String):Array Syntax:=foL (fun a w=>a.push (T e #[h,z,idn w,idn (w ++ ".ctorIdx"),idn "rfl"])) (s.splitOn " ") #[]
 T "(T.first x $0)" #[mkNullNode (sp "x" "(g (T.subst x (n $0)))"
  ++ sp "Option Bool List AV Out Flow Data Value PyData LS NameKind AO Cls" "(g (T.exact x (E.app `nc (n $3 $0 $4))))"
  ++ sp "cs1 cs4' cs5 cs6 csD csR" "(g (T.refine x (E.app $2 (n $0 (E.syntheticHole ? _)))) (T.tacticTry_ x (s (T.clear x (n $0)))) (T.intro x (n $0)) (T.cases x (n (T.elimTarget (n) $0)) (n) (n)))"
  ++ sp "cs2 cs3" "(g (T.refine x (E.app $2 (n $0 (E.syntheticHole ? _)))) (T.tacticTry_ x (s (T.clear x (n $0)))) (T.intro x (n $0 $1)) (T.cases x (n (T.elimTarget (n) $0)) (n) (n)) (T.cases x (n (T.elimTarget (n) $1)) (n) (n)))"
  ++ sp "cs0" "(g (T.refine x (E.app $2 (n $0 (E.syntheticHole ? _)))) (T.tacticTry_ x (s (T.clear x (n $0)))))" ++ sp "x" "(g (T.fail x (n)))")]
def oh (h:Syntax):Syntax:=
 let g:=nth (nth h 1) 1
 T "(T.refine x (E.app `hdT (n $0 $1 $2 (E.fun x (E.basicFun (n (E.hole _)) (n) x (E.anonymousCtor x (n (E.anonymousCtor x (n $3 x $3 x $3) x) x $3 x $3 x $3) x))) $4 $4 $4 (E.syntheticHole ? `hw) (E.syntheticHole ? `hc))))" #[nth g 0,nth g 1,nth g 2,T "(E.byTactic x (s $0))" #[mN ``tacticKernel_rfl #[mkAtom "kernel_rfl"]],T "(E.byTactic x (s (T.tacticRfl rfl)))" #[]]
theorem y02 {a b:Nat} (h:a<=b) (h2:b<5):a<=16777216:=EH h (EH (El h2) (by decide))
theorem y03 {b:Nat} (h:b<5):(b:Int)<2 ^ 62:=LP (Gl.mpr h) (by decide)
theorem y04 {b:Nat} (h:b<5):b<=4:=G0 h
theorem y05 {a b:Nat} (e:a=b) (h:b<5):a<=100:=e▸EH (El h) (by decide)
theorem y06 {g e:Nat} (h:g<e) (h2:e<5):g+1<=5:=EH h (El h2)
theorem y07 {a b c:Nat} (h:a+b<=c):a<=c:=EH (EP a b) h
theorem y09 {m:Int}:m - 0=m:=Int.sub_zero m
theorem y10 {a b:Nat} (h:a+1<=b) (e:b=0):False:=by subst e;exact Iw _ h
theorem y11 {a b:Nat} (h:a+1<=b):b≠0:=fun e=>y10 h e
theorem y15 {a b i:Nat} (e:a=b) (h:¬ i<b):a<=i:=e▸E3.mp h
theorem y16 {p:Nat} (h:0+1=p+1+1):False:=HW _ (K5.inj h).symm
theorem y20 {k:Nat} (h:k<=1000):k+1<4096:=Er (GK h) (by decide)
theorem y26 {z:Nat}:z+1<z+2:=E6 _
theorem y31 {p:Nat} (h:¬ p=0):0<p:=Nat.pos_of_ne_zero h
theorem y32 {a b:Nat} (e:a=b+1):b<=a:=e▸Ej b
theorem y34 {f:Nat} (h:f<=5):((2:Nat):Int) * (f:Int)<=2 ^ 27:=JL (H9.mpr (Gb 2 h)) (by decide)
def omt:String := "OL om2 ar om4 ar ro0 aa ro1 aa ro2 aa ro3 a ro4 a ro5 a un0 aa un1 aa un2 aa un3 aa un4 aa un5 a un6 a su2 a | ro6 aa ro7 aa un7 aa un8 a un9 a DH aa Cy aa lt1 aar lt2 aar lt3 aa lt4 ar lt5 aa lt6 aaa lt7 aa lt8 aa lt9 aa CL aa CO a DP a DM a Dy a Ck a Bm - Cg a DD aaa Cc a CE aa Dw aa Ct aa CS a CH a Dq a Co a le3 a D7 aar mo1 - mo2 - tn7 aa ca5 a sb5 a ex4 a tr2 aa tr3 aa y20 a y26 - y31 a ; OM om1 ar om3 ar om5 ar | le1 a le4 a le5 aa le6 a le7 - le8 - le9 a BH a Di a DU a Db a Dg aa D1 aa C8 aa DW aa CP aa Bv aa CD aa Dt aaa Cz aa CJ a Bu aa C1 - Cm a By a Dv a Dh a D4 - CN - DC - Ce aa ge1 aar ge2 aar ge3 aar ge4 aar ge5 aar ge6 aar ge7 aar ge8 aaar ge9 ar CA aaar yz ar DZ aar DV aar CB ar DK ar DA aar D6 aaar Dk ar Cu ar CR ar BC aar Dz aar Cn aar Dx aaar BG aar Bw aaar CT ar Cj aaar DO ar Cd aar Ci aaaa nn4 a sb2 a tr1 aa y02 aa y04 a y05 aa y06 aa y07 a y15 aa y32 a ; OE | tn1 - eq1 aa eq3 - eq4 - eq5 - eq6 - eq7 - eq8 - eq9 - C9 - DB - Dj - CG - DN - Du - D8 a Dr a Cp a DY a DS a DX a D9 a C5 a DL aa DJ aa C4 aa Br aaa Dm aaa Ds aa tn2 - tn3 - tn4 a ca1 a ca2 a CW a C7 a sb1 a sb3 a gl1 - ep1 aaa fc7 - aa1 - ; OF | no1 aa no2 a no3 a no4 a no5 aar no9 a D5 aaa Bs aaa CQ aaa Cq aaa DQ a D3 aaa CY aa CM aa cb7 aa y10 aa y16 a ; OI fi1 ar fi2 ar fi3 aar fi4 aar fi6 ar | fi8 aar fi9 aaar Cs aaar Bx aar Cv aar CX aar Cf aar DI ar Bz aar Cw - Dn a Ca aa tn5 aa ca6 a Dd a y03 a ; OJ fi5 - | nn0 - nn1 - nn2 a nn5 a nn6 a ca4 a tr4 aa y34 a ; OG | DF a C6 a mo3 - ca3 a ca7 - ca8 - ca9 - Df a CK aa y09 - ; OR | Ch - CZ - DG - if1 aaa if2 a if3 - if4 - or1 aa or2 aa nn3 aa tn6 aaa cs4 a y11 a"
def oo (k:String):Syntax:=T "(T.omega x (T.optConfig (n (T.configItem (T.posConfigItem + $0)))))" #[idn k]
def og (xs:Array Syntax):Syntax:=mN `group #[mkAtom "|",sq xs]
def oh1 (xs:Array Syntax):Syntax:=mN `Lean.Parser.Tactic.first #[mkAtom "first",mkNullNode xs]
def omg (t:String) (c:Syntax):Option Syntax:=
 let c:=(nth c 0).getArgs
 if c.isEmpty then
  let h:=T "(E.hole _)" #[]
  some (T "(T.withReducible x (s $0))" #[oh1 (foL (fun a w=>a.push (og (match w.splitOn " " with
   | [k]=>#[oo k]
   | k :: r :: n=>#[T "(T.refine x $0)" #[tA (ap (T "(E.explicit @ $0)" #[idn r]) (foL (fun b i=>b.push (if i == "_" then h else idn i)) n #[]))],oo k]
   | _=>#[]))) ("OL LT.lt Nat _ _ _|OM LE.le Nat _ _ _|OE Eq Nat _ _|OF False|OI LT.lt Int _ _ _|OJ LE.le Int _ _ _|OG Eq Int _ _|OR".splitOn "|") #[og #[T "(T.assumption x)" #[]]])])
 else match t.splitOn ((nth (nth (c.getD 0 .missing) 0) 1).getId.toString ++ " ") with
  | [_,r]=>
   let as:=it id 9 true (mkAtom "%a")
   let rf:=idn "rfl"
   let (a,b,_):=foL (fun (a,b,l) (w:String)=>
    if l == "" then (if w == "|" then (b,#[], "") else (a,b,w))
    else (a,b.push (og #[mN `Lean.Parser.Tactic.exact #[mkAtom "exact",ap (idn l) (foL (fun b c=>if c == '-' then b else b.push (if c == 'a' then as else rf)) w.toList #[])]]), "")) (((r.splitOn " ;").headD "").splitOn " ") ((#[],#[], ""):Array Syntax×Array Syntax×String)
   let om:=oo "splitDisjunctions"
   some (oh1 (a ++ #[og #[T "(T.failIfSuccess x (s (T.failIfSuccess x (s $0))))" #[om],oh1 (b ++ #[og #[om]])]]))
  | _=>none
end
end
section
set_option genSizeOf false
set_option tactic.hygienic false
open Lean Lean.Parser.Tactic in
local macro_rules
  | `(tactic| obtain $p:rcasesPatMed:=$v:term)=>return ob p v
open Lean in
local macro_rules
  | `(tactic| omega $c)=>match omg omt c with | some s=>return s | none=>Macro.throwUnsupported
open Lean in
local macro_rules
  | `(match $x:term with | $p:term=>$b:term)=>match mb x p b with | some s=>return s | none=>Macro.throwUnsupported
open Lean in
local macro_rules
  | `(tactic| cases $h:ident)=>return cz h
open Lean in
local macro_rules
  | `(tactic| show $t)=>return sw t
open Lean in
local macro_rules
  | `(tactic| have' $d:letDecl)=>return hv d
open Lean Lean.Parser.Tactic in
local macro_rules
  | `(tactic| rw $s:rwRuleSeq)=>let a:=(nth s 1).getArgs;if a.size % 2==0 then Macro.throwUnsupported else return rwq s.raw[1].getSepArgs
noncomputable def goI (stp:Gq->Thread->Option (Gq×Thread)) (ex:Thread->Option (List Value)):Nat->Gq->Thread->Option Gq
 | 0,_,_=>none
 | n+1,s,t=>match ex t with
  | some []=>some s
  | some (_ :: _)=>none
  | none=>match stp s t with
   | some (s',t')=>goI stp ex n s' t'
   | none=>none
noncomputable def goT (stp:Gq->Thread->Option (Gq×Thread)) (okk:Thread->Bool):Nat->Gq->Thread->Option Gq
 | 0,_,_=>none
 | n+1,s,t=>match through t with
  | true=>some s
  | false=>match okk t with
   | false=>none
   | true=>match stp s t with
    | some (s',t')=>goT stp okk n s' t'
    | none=>none
theorem jb {tb:String->Option Ep} {p:Fq} {w:World}:∀ {n:Nat} {s s':Gq} {t:Thread},
  goI (stepT (denote tb) p w) Thread.atExitBegin n s t=some s'->importEnds tb p w n s.abs t=some s'.abs:=by
 intro n
 induction n with
 | zero=>intro _ _ _ h;cases h
 | succ n jb=>
  intro s s' t h;unfold goI at h
  unfold importEnds
  cases he:t.atExitBegin with
  | some l=>
   rw [he] at h
   cases l with
   | nil=>cases h;rfl
   | cons=>cases h
  | none=>
   rw [he] at h
   cases hs:stepT (denote tb) p w s t with
   | none=>rw [hs] at h;cases h
   | some r=>obtain ⟨s₂,t₂⟩:=r;rw [hs] at h;dsimp only;rw [stepT_spec hs];exact jb h
theorem j6 {tb:String->Option Ep} {p:Fq} {w:World} {n₀:Nat} {ann:Option Value}:∀ {n:Nat} {s s':Gq} {t:Thread},
  goT (stepT (denote tb) p w) (stepOk n₀ ann) n s t=some s'->topRun tb p w n₀ ann n s.abs t=some s'.abs:=by
 intro n
 induction n with
 | zero=>intro _ _ _ h;cases h
 | succ n j6=>
  intro s s' t h;unfold goT at h
  unfold topRun
  cases he:through t with
  | true=>rw [he] at h;cases h;rfl
  | false=>
   rw [he] at h
   cases hk:stepOk n₀ ann t with
   | false=>rw [hk] at h;cases h
   | true=>
    rw [hk] at h
    cases hs:stepT (denote tb) p w s t with
    | none=>rw [hs] at h;cases h
    | some r=>obtain ⟨s₂,t₂⟩:=r;rw [hs] at h;dsimp only;rw [stepT_spec hs];exact j6 h
noncomputable def ofL:List Obj->BT->Nat->Option BT
 | [],t,_=>some t
 | o :: r,t,n=>match ((t.ins n o).get n).isSome with
  | true=>ofL r (t.ins n o) (n+1)
  | false=>none
theorem nj {life:Life}:∀ {l:List Obj} {t t':BT} {n:Nat},ofL l t n=some t'->LQ t' (n+l.length) life=⟨(LQ t n life).objs++l.toArray,life⟩:=by
 intro l
 induction l with
 | nil=>intro t t' n h;cases h;simp [LQ]
 | cons o r nj=>
  intro t t' n h;unfold ofL at h
  cases g:((t.ins n o).get n).isSome with
  | false=>rw [g] at h;cases h
  | true=>
   rw [g] at h
   have z:=nj h
   rw [absHeap_ins g] at z
   rw [E0,show n+(r.length+1)=n+1+r.length by omega,z]
   simp [HY,LQ]
noncomputable def sE (imp stp:World->Gq->Thread->Option (Gq×Thread)) (ex:Thread->Option (List Value)) (okk:Nat->Option Value->Thread->Bool) (fence:Shared->Option Shared)
  (s₀:Shared) (t₀ t₁:Thread) (N:Nat) (w:World):Option (Shared×Gq):=
 (goI (imp w) ex N ⟨.nil,0,s₀.heap.life,s₀.gens,s₀.drawn,s₀.toks,s₀.os⟩ t₀).bind fun SI=>
 (fence SI.abs).bind fun s1=>
 (ofL s1.heap.objs.toList .nil 0).bind fun T0=>
 (goT (stp w) (okk s1.heap.objs.size (s1.heap.nsMap Go "__annotations__")) N ⟨T0,s1.heap.objs.toList.length,s1.heap.life,s1.gens,s1.drawn,s1.toks,s1.os⟩ t₁).bind fun S2=>some (s1,S2)
noncomputable def the {α:Type} (d:α) (o:Option α):α:=@Option.rec α (fun zz=>α) d (fun a=>a) o
noncomputable def fK:Shared×Gq:=({},⟨.nil,0,{},#[],{},0,{}⟩)
noncomputable def mV (S:Gq) (a:Nat):Option Obj:=match Nat.blt a S.n with
 | true=>(match S.tree.get a with | some o=>alive o | none=>none)
 | false=>none
set_option tactic.hygienic true in
theorem lI {S:Gq} {a:Nat} {o:Obj} (h:mV S a=some o):S.abs.heap.get? a=some o:=by
 unfold mV at h
 split at h
 ·rename_i hb
  split at h
  ·rename_i o' g
   exact (abs_get (EW hb) g).trans h
  ·cases h
 ·cases h
theorem rV {S:Gq}:∀ {as:List Nat} {r:Frag},as.map (mV S)=r.map (fun p=>some p.2)->as.map S.abs.heap.get? = r.map (fun p=>some p.2):=by
 intro as
 induction as with
 | nil=>
  intro r h
  cases r with
  | nil=>rfl
  | cons _ _=>cases h
 | cons a as rV=>
  intro r h
  cases r with
  | nil=>cases h
  | cons o os=>
   rw [E9,E9] at h
   obtain ⟨h1,h2⟩:=HX.inj h
   rw [E9,E9,lI h1,rV h2]
noncomputable def Ap {α β:Type} (f:α->β) (l:List α):List β:=@List.rec α (fun zz=>List β) [] (fun a zz r=>f a :: r) l
noncomputable def Bn {α β:Type} (f:α->β) (l:List α):List β:=@List.rec α (fun zz=>List β) [] (fun a zz r=>f a :: r) l
theorem sW {α β:Type} (f:α->β) (l:List α):Ap f l=l.map f:=by
 induction l with
 | nil=>rfl
 | cons a l ih=>exact congrArg (f a :: ·) ih
theorem AG {α β γ:Type} {f:α->β} {g:γ->β} {l:List α} {r:List γ} (h:Ap f l=Bn g r):l.map f=r.map g:=(sW f l).symm.trans (h.trans (sW g r))
theorem zd (s:Shared) (h:s.heap.objs = #[]):(⟨.nil,0,s.heap.life,s.gens,s.drawn,s.toks,s.os⟩:Gq).abs=s:=by
 obtain ⟨⟨objs,l⟩,g,d,t,o⟩:=s
 have' h:objs = #[]:=h
 subst h
 rfl
theorem yp (s:Shared) {T:BT} (h:ofL s.heap.objs.toList .nil 0=some T):(⟨T,s.heap.objs.toList.length,s.heap.life,s.gens,s.drawn,s.toks,s.os⟩:Gq).abs=s:=by
 have z:=nj (life:=s.heap.life) h
 rw [HK] at z
 obtain ⟨⟨objs,l⟩,g,d,t,o⟩:=s
 show (⟨LQ T objs.toList.length l,g,d,t,o⟩:Shared)=_
 rw [z]
 simp [LQ,BT.list]
noncomputable def AH (p:Fq) (N:Nat) (w:World):Option (Shared×Gq):=
 sE (stepT (denote L9) (LR p)) (stepT (denote L9) p) Thread.atExitBegin stepOk (fenceModules? p) (start (LR p)).1 (start (LR p)).2 (topStub p) N w
noncomputable def gQ (p:Fq) (N:Nat) (w:World):Option (Shared×Gq):=
 sE (Fast.tw10156331382660048174 (Fast.tw11892475500146522536 Fast.tw14364793385576792824) (LR p)) (Fast.tw10156331382660048174 (Fast.tw11892475500146522536 Fast.tw14364793385576792824) p)
  Fast.tw3805553451399329143 Fast.tw6613529449190102663 (Fast.tw14289696077712309145 p) (start (LR p)).1 (start (LR p)).2 (topStub p) N w
theorem yW:AH=gQ:=by
 unfold AH gQ
 rw [Fast.te10156331382660048174,Fast.te11892475500146522536,Fast.te14364793385576792824,Fast.te3805553451399329143,Fast.te6613529449190102663,Fast.te14289696077712309145]
noncomputable def zq (p:Fq) (s1:Shared) (s:Shared):Bool:=(staticsOk (IG p.main.body) s1.heap s.heap && namesBound p s.heap && gensDone s && laidKept s1.heap s.heap) && (s1.heap.isNs Go && s1.gens.size==0)
theorem zK {p q:Fq} {loose:List Str} {Xt:Shared->Bool} {α:Type} {Yf:Shared->α} {Ya:World->α} {N:Nat}
  (h:∀ w,(gQ p N w=some (the fK (gQ p N w))/\zq p (the fK (gQ p N w)).1 (the fK (gQ p N w)).2.abs=true /\
   Fast.tw4187177175401517315 q loose (IG p.main.body) Xt true (the fK (gQ p N w)).2.abs=openGood q loose)/\Yf (the fK (gQ p N w)).2.abs=Ya w):LeftO p q loose Xt Yf Ya N:=fun w=>by
 obtain ⟨⟨h0,hg,hs⟩,hy⟩:=h w
 rw [<- Fast.te4187177175401517315] at hs
 generalize the fK (gQ p N w)=r at h0 hg hs hy
 obtain ⟨s1,S2⟩:=r
 rw [<- yW] at h0
 unfold AH sE at h0
 obtain ⟨SI,h1,h0⟩:=Gr.mp h0
 obtain ⟨s1',h2,h0⟩:=Gr.mp h0
 obtain ⟨T0,h3,h0⟩:=Gr.mp h0
 obtain ⟨S2',h4,h0⟩:=Gr.mp h0
 cases h0
 have r1:=jb h1
 rw [zd _ rfl] at r1
 have r2:=j6 h4
 rw [yp _ h3] at r2
 unfold openEnds fencedOpening
 rw [r1]
 show ((fenceModules? p SI.abs).bind (topFrom L9 p w N)).map _=_
 rw [h2]
 show (topFrom L9 p w N _).map _=_
 unfold topFrom
 obtain ⟨g1,g2⟩:=Ix.mp hg
 rw [g2,r2]
 dsimp only [Option.bind]
 rw [g1]
 show some (openSeen q loose (IG p.main.body) Xt true S2'.abs,Yf S2'.abs)=_
 rw [hs,hy]
noncomputable def eu (a:Addr) (o:Obj) (H:Hook):Hook:=
 ⟨Option Obj×Bool×H.α,fun s=>(s.heap.get? a,(s.heap.get? JX).isSome,H.obs s),fun w=>(some o,true,H.val w),fun w h=>h.get? a=some o/\(∃ o,h.get? JX=some o)/\H.says w h,
  fun w s e=>have e':=(Lp.inj e).2;⟨(Lp.inj e).1,ID.mp (Lp.inj e').1,H.of w s (Lp.inj e').2⟩,fun w h h' y k=>⟨k _ _ y.1,let ⟨o,e⟩:=y.2.1;⟨o,k _ _ e⟩,H.keeps w h h' y.2.2 k⟩⟩
noncomputable def LK (p q:Fq) (loose:List Str) (Xt:Shared->Bool) (N:Nat) (K:Params->Frag) (as:List Addr) (a:Addr) (o:Obj):Prop:=∀ w:World,(gQ p N w=some (the fK (gQ p N w))/\zq p (the fK (gQ p N w)).1 (the fK (gQ p N w)).2.abs=true /\
   Fast.tw4187177175401517315 q loose (IG p.main.body) Xt true (the fK (gQ p N w)).2.abs=openGood q loose) /\
   mV (the fK (gQ p N w)).2 a=some o/\(mV (the fK (gQ p N w)).2 JX).isSome=true/\Ap (mV (the fK (gQ p N w)).2) as=Bn (fun p=>some p.2) (K w.params)
theorem y5 {p q:Fq} {loose:List Str} {Xt:Shared->Bool} {N:Nat} {K:Params->Frag} {as:List Addr} {e:∀ P,as=(K P).map (·.1)} {a:Addr} {o:Obj}
  (h:LK p q loose Xt N K as a o):LeftO p q loose Xt (Hook.obs (eu a o (kHook K as e))) (Hook.val (eu a o (kHook K as e))) N:=
 zK fun w=>⟨(h w).1,by
  obtain ⟨x,hx⟩:=ID.mp (h w).2.2.1
  show (_,_,_)=(_,_,_)
  rw [lI (h w).2.1,lI hx]
  exact congrArg _ (congrArg _ (rV (AG (h w).2.2.2)))⟩
noncomputable def o6:Obj:={cls:=.none,data:=.fields #[]}
noncomputable def rW:List Str:=(["_wall", "_NODE_OUT", "_NODE_DONE", "_NodeInfo", "CycleError", "TopologicalSorter", "_twin_re_1", "_whence", "_index", "UnsupportedOperation", "IOBase", "BufferedIOBase", "TextIOBase", "BytesIO", "StringIO", "_kind", "_fspath", "_check_arg_types", "isabs", "join", "join_path", "dirname", "shlex", "split", "join_shlex", "_find_unsafe", "quote", "_deduplicate", "_deduplicate_unhashable", "_compare_args_orderless", "_law_cells", "_law_words", "_law_bonds", "_law_sorter", "_law_rounds", "_law_one_by_one", "_law_runs", "_law_is_stepped", "_law_is_least", "_law_changed", "_law_alike", "_law_text", "_law_read", "_law_holds"]:List String).map EE
noncomputable def qv:Fq:=view PySem.Challenge.pw_op0287_02 [0,1,53]
section
set_option maxHeartbeats 0
theorem lw0:sreFenced Ew.row.prog.main=true:=by rw [Fast.te11788848310118352699,];kernel_rfl
theorem lw1:((moduleNames Ew.row.prog.main.body).isEmpty || lookedIntoSs (moduleNames Ew.row.prog.main.body) Ew.row.prog.main.body)=true:=by
  rw [Fast.te9807087744658564304,Fast.te12862048085361865435,];kernel_rfl
theorem lw2:namesResolve Ew.row.prog=true:=by rw [Fast.te8377067652309620493,];kernel_rfl
theorem lw4:noRoadLSs {strict:=!(IG Ew.row.prog.main.body).all cThrough.contains,foot:=none,bare:=(["vars", "dir", "locals"]:List Str).filter (readsOut Ew.row.prog Ew.row.prog.main.body)} Ew.row.prog.main.body=true:=by
  rw [Fast.te8326940854005059898,Fast.te5923862056798008813,Fast.te13343964577679436407,];kernel_rfl
theorem lw5:(namesMeet Ew.row.prog Ew.row.prog.main.body fun zz n=>attrL n)=true:=by
  rw [Fast.te17119622794617984870,Fast.te17868728402115742887,];kernel_rfl
theorem CV:(namesMeet Ew.prog Ew.above fun zz n=>!Ew.own.contains n)=true:=by
  rw [Fast.te17119622794617984870,Fast.te3471404346716756564,Fast.te10792542408131684335,];kernel_rfl
end
section
set_option maxHeartbeats 0
theorem ws:Ew.wellSaid=true:=by
  unfold OpenLaw.wellSaid OpenRow.wellSaid OpenRow.partSaid looksOpen
  repeat' (with_reducible apply look_both)
  all_goals (first
    | (with_reducible exact lw0) | (with_reducible exact lw1) | (with_reducible exact lw2) | (with_reducible exact lw4) | (with_reducible exact lw5) | (with_reducible exact CV)
    | ((try rw [Fast.te8326940854005059898,]);(try rw [Fast.te17119622794617984870,]);(try rw [Fast.te8179353310426384613,]);(try rw [Fast.te9558739934217749035,]);(try rw [Fast.te16286561074155671207,]);(try rw [Fast.te18344453789297297638,])
       (try rw [Fast.te797321630700447069,]);(try rw [Fast.te6984425678791042302,]);(try rw [Fast.te10792542408131684335,]);(try rw [Fast.te9572597257264208301,]);(try rw [Fast.te10501279942588096481,]);(try rw [Fast.named_eq,]);(try rw [Fast.te482687673346738481,])
       (try rw [Fast.te3471404346716756564,]);(try rw [Fast.sDec_eq,])
       kernel_rfl))
end
section
set_option maxHeartbeats 0
local macro_rules | `(tactic| o_law)=>return T "(T.refine x (E.app `holds_law (n `ws (E.fun x (E.basicFun (n (E.hole _)) (n) x (E.syntheticHole ? _))))))" #[]
theorem hdT (K:Params->Frag) (as:List Addr) (e:∀ P,as=(K P).map (·.1)) {d:DefRec} {kwd:List (Str×Expr)} (hl:LK Ew.row.prog qv rW (fun s=>xlAt qv [] s && recOk [] s) 7000 K as 866 o6)
    (hdef:defOf qv Ew.row.name=some (d,kwd)) (hp:Ew.row.prog.theDef Ew.row.name=some (d.params,d.body,d.scope)) (hk:kwWritten? d.params.kwonlyargs d.params.kw_defaults=some kwd) (hw:Ew.row.toRowW.promised)
    (call:WalkO qv rW (XL qv []) (Hook.says (eu 866 o6 (kHook K as e))) Ew.row.toRowW d kwd fun f vs=>PySem.call f vs):Ew.row.Holds:=
  holds_open (q:=qv) (loose:=rW) (Xt:=fun s=>xlAt qv [] s && recOk [] s) (XP:=XL qv []) (Yf:=Hook.obs (eu 866 o6 (kHook K as e))) (Ya:=Hook.val (eu 866 o6 (kHook K as e))) (YP:=Hook.says (eu 866 o6 (kHook K as e))) (N:=7000)
    (y5 hl) (Hook.of (eu 866 o6 (kHook K as e))) (Hook.keeps (eu 866 o6 (kHook K as e))) (fun s e=>xl_of s (Ix.mp e).1) XL.keeps hdef hp hk
    (fun s e=>recFacts_of (Ix.mp e).2) (by rfl) (row_said ws) (by decide +kernel) ⟨rfl,rfl,rfl,rfl,rfl,by decide +kernel⟩ hw call
local macro_rules | `(tactic| o_head $h)=>return oh h
open_top hd for PySem.Challenge.rw_op0287_02
end
section
set_option linter.all false
set_option compiler.extract_closed false
theorem nz {fz:List Nat} {n k:Nat} (h:∀ i∈fz,i<n) (e:n<=k):k∉fz:=fun m=>absurd (h k m) (E3.mpr e)
section
variable {P:List Value->Prop}
theorem vs0 (h:P []) (vs:List Value) (e:vs.length=0):P vs:=GQ e▸h
theorem vsS {n:Nat} (h:∀ a vs,vs.length=n->P (a :: vs)) (vs:List Value) (e:vs.length=n+1):P vs:=by
  cases vs with
  | nil=>exact absurd e (HW n).symm
  | cons a vs=>exact h a vs (K5.inj e)
theorem vs1 (h:∀ a,P [a]):∀ vs:List Value,vs.length=1->P vs:=vsS fun a=>vs0 (P:=fun l=>P (a :: l)) (h a)
theorem vs2 (h:∀ a b,P [a,b]):∀ vs:List Value,vs.length=2->P vs:=vsS fun a=>vs1 (P:=fun l=>P (a :: l)) (h a)
theorem vs3 (h:∀ a b c,P [a,b,c]):∀ vs:List Value,vs.length=3->P vs:=vsS fun a=>vs2 (P:=fun l=>P (a :: l)) (h a)
theorem vs4 (h:∀ a b c d,P [a,b,c,d]):∀ vs:List Value,vs.length=4->P vs:=vsS fun a=>vs3 (P:=fun l=>P (a :: l)) (h a)
end
def tab:String := "R wr
R1 (; iw wr)
R2 (; iw iw wr)
Nk kr
Ndk dk
Non (; iw Me)
Nas assumption wr
Nmod decide assumption
Mshape assumption rfl kr decide
Mside assumption decide rfl om (; (simp List.length_cons List.length_nil List.length_map sizeLine_eq) (first done decide om))
Nlt decide (; (simp List.length_cons List.length_nil) om)
Mnz assumption (nz =a Mle)
Mle om (; (simp List.length_append List.length_cons List.length_nil) om)
Mpeek (!vs0 Mpk) (!vs1 Mpk) (!vs2 Mpk) (!vs3 Mpk) (!vs4 Mpk)
Mpk (; intros (rw (bH.K %a)) kr)
Mqt (r (aB ?v ?t) (v Me) (t Ma))
De (r (ou (bH.look H rfl) rfl rfl ?c rfl rfl rfl rfl rfl rfl ?o ?f ?^hb ?^bl ?^st ?^h ?^hr) (c (e (bH.code H %k))) (o Mnames) (f decide))
Dp (; De (c ^hb (r (bQ.args ?k) (k Mpeek))) (c ^bl Mblank) (c ^st (simp List.map_cons List.map_nil List.zip_cons_cons List.zip_nil_right List.zip_nil_left) Mstall))
Dc (; (r (dN ?k ?i ?f ?c ?b ?^hc ?^hz) (k Mcompok) (i Mi) (f Mfrees) (c Mclos) (b Mblank)) (all (try (dsimp List.nil_append))))
Da (; (r (eB ?k ?i ?f ?c ?b ?^hc ?^hz ?t %x) (k Mcompok) (i Mi) (f Mfrees) (c Mclos) (b Mblank) (t Ma)) (all (try (dsimp List.nil_append))))
Mdats (kT.nil) (kT.cons Mdats)
Mload (bq.here) (ld1) (ld2) (ld3) (ld4) (ld5) (ld6) (bq.there Mload)
Mloadc (eE.cell) (eE.free) (eE.there Mloadc)
Mcellat (dX.cell) (dX.free) (dX.there Mcellat)
Mglob (bx.here) (ga1) (ga2) (ga3) (ga4) (ga5) (ga6) (bx.there Mglob)
Mstore (bS.here) (sa1) (sa2) (sa3) (sa4) (sa5) (bS.there Mstore)
Mblank (cM.nil) (bl4 Mblank) (cM.cons Mblank)
Mclos (gT.nil) (gT.free Mloadc Mclos) (gT.other Mclos)
Mfrees (cH.nil) (cH.free Mcellat Mfrees) (cH.loc Mfrees) (cH.cel Mfrees) (cH.glo Mfrees)
Msub (Sub.nil) (Sub.same Msub) (Sub.drop Msub)
Nkind (!Or.inl =rfl) (!Or.inr =rfl)
Mnames (!dc.mk Ndk Ndk)
Mcompok (!jU.of Mnames =rfl =rfl)
Mstall (cQ.nil) (cQ.cons Mstore Nkind Mstall)
Mfact (qB =a) (qy =a) (l4 =a) (oN =a) (nW =a) (qX =a) (pu =a) (j4 =a) (jZ =a) (lK =a) (pX =a) (sF =a) (qp =a) (p8 =a) (zf =a) (nB =a) (zg =a) (l6 =a) (fC =a) (fF =a) (iJ =a) (rh =a) (qw =a) (oi =a) (mB =a) (zG =a) (sB =a) (tT =a) (yq =a) (y6 =a)
Mbfact (zJ =a) (zQ =a) (Bl =a) (BV =a) (B9 =a) (BN =a) (Bg =a) (BJ =a) (xN =a) (w9 =a) (Be =a) (B4 =a) (nk =a) (oK =a) (AD =a) (Ah =a) (zH =a) (zI =a) (AB =a) (Am =a) (BL =a) (Bc =a) (Aw =a) (AU =a) (AY =a) (At =a) (B2 =a) (Bj =a) (Bk =a) (BW =a) (A9 =a) (AC =a) (xx =a) (wC =a) (gJ =a) (gL =a) (nM =a) (nh =a) (oZ =a) (qV =a)
Mbo (~An) (~AK) (~Ay Nmod) (~Af Mside Mside) (~zR Mside Mside) (~kb Mside)
Mop (~xm) (~Ae) (~vm) (zx) (iG) (~yl) (~yd) (~Bf) (~zm) (~Ba) (~tG) (~r8) (~xF) (~xO =rfl) (~lE =rfl) (uK =rfl) (nC =rfl) (~rJ Mshape Mshape) (~fD Mshape Mshape) (~pG Mshape Mshape) (~w8 Mshape Mshape) (~ir Mshape Mshape)
Mbc (wF) (AR Mside) (yc Mside) (oG =rfl Mside) (Ax R) (As)
Mpart (ti) (vO Me Mcast)
Mcast (rfl) (!BY) (!BF) (!BK) assumption
Me (bW Me Mgeta R1) (jG) (nt) (ix) (fV) (ec Mload) (xI Mglob Mfact) (kK Mglob Mbfact Mbfact) (cx Me Me Mbo) (nJ Me Me Mop R) (zW Me) (vB Ml Mdats Mside) (cu Me Ml Mbc R) (oB Me Non) (pv Me Non) (jX Me Mpart Mpart Mside R2) (wI Me Me Mside Mside Mside R2) (tm Me Me Mside Mside Mside R2)
Ml (bR) (bF Me Ml R)
Ntru (dW) (kS) (y9) (jA =_) (fY =_)
Mt (zk Mload Mgeta R1) (zh Mload Mload Mgeta R1) (ai Me Me Mop R) (dS Mt) (bV Me Ntru R1)
Mi (rZ Mglob Mbfact Mbfact Me Mside Mside R R R) (ph Mglob Mbfact Mbfact Me Me Mside Mside Mside Mside R R R R) (fg Me R Nnm) (lU Me R R)
Nnm (!OnL.name R)
Ma (b8 Me Mseta) (rS Mstore) (tZ Mstore)
Mat (cO) (jL) (qU) (fB =a) (sU =a) (dH) (gG) (eo =a) (ig =a) assumption (!iH.trans =rfl) (!i9.trans =rfl) (!gh =:dH) (!gh =:gG)
Ma2 (!mu Ma Ma R R1)
Mzip (!wR Mglob Mbfact Mbfact Me Me R R R)
Mgeta (zy =a) (Ao =a) (AN =a) (Aq =a) (AZ =a) (vv =a) (wZ =a) (yJ =a) (ln =a) (lh =a) (vT =a) (oD =a) (uo =a) (jS =a) (qW =a) (AJ =a) (p9 =a) (oC =a) (vU =a) (xa =a Nlt =rfl) (!cI Mat =bw Nfd Nas R) (!dD Mat =eN Mslot Nas R) (!uL =:iH =dY Nfd Nk)
Nfd (!fd_ =a Nk)
Mslot (!sg =a) (!iN =a) (!sO =a)
Mseta (!bj Mat Mnz =bw Nfd Nlt) (!gY Mat Mnz =eN Mslot Nlt)
Ms (r (to %a (dY %a) ?v ?o (fd_ %a %k) %k (Nat.le_of_ble_eq_true rfl) ?n) (v Mv) (o Me) (n kr)) Mqt (r (bL (aY.of ?t ?d) (aE ?b)) (t Mt1) (d rfl) (b Ms)) (r (aN (aY.of ?t ?d) aH) (t Mts) (d kr))
Mv Me (r (aG.of (aG.st (uS ?x) ?y) ?z) (x Me) (y (rw List.append_assoc) rfl) (z (e (congrArg AV.ref List.length_append))))
Mts (r (bV ?x (jA ?y) %j) (x Me) (y dk))
Mgo (r (aA ?s ?_) (s Ms))
Mt1 (!dS Mt1) Mt
Mt4 (zk Mload Mgeta R1) (zh Mload Mload Mgeta R1) (dS Mt4) (bV Me Ntr4 R1) Mt
Ntr4 (dW) (kS) (jA Nl4)
Nl4 (red assumption) dk (; (rw kM) decide)
Mdec assumption rfl kr
Nd4 (red assumption) dk rfl
Mtt (red (r (dF (aY.of ?t ?d)) (t Mt4) (d Nd4))) (red (r (cD (aY.of ?t ?d) ?u) (t Mt4) (d Nd4) (u Mt4))) Mt4
Mhead (r (aA ?p (aA (aN (aY.of ?t ?d) aH) (aA (aN (aY.of ?u ?v) aH) ?_))) (p Mh1) (t Mt4) (d (first (red assumption) kr)) (u Mge) (v rfl))
Mh1 (r (aN (aY.of (dF (aY.of ?t ?d)) rfl) (aE (aB ?r ?a))) (t Mts) (d kr) (r Mrd) (a Ma))
Mrd (r (AS %a ?o ?e rfl %a (Nat.le_refl 2) rfl %a ?h %x) (o Me) (e Ml) (h (first (e (Or.inl (< _ %a rfl rfl))) (e (Or.inr (< %a rfl rfl))))))
Mge (r (ai ?x jG (OpG.of2 tG)) (x Me))
M0 (r (aE (aN (aY.of ?t ?d) ?_)) (t Mtt) (d Nd4))
M1 (r (aE (bL (aY.of ?t ?d) ?_)) (t Mtt) (d Nd4))
Mas (r (aB ?v (b8 ?o ?s)) (v Me) (o Me) (s Mst4))
Mst4 (C0 =a =a) (C3 =a =a) (Do =a =a) (yF =a =a)
Mnq (r (aB (aG.of ?v %k) (b8 ?o (jJ %a _ %a))) (v Me) (o Me))
Mcat (r (fJ ?o ?g ?v (OpG.of2 (pw ?z)) (yF %a %a)) (o Me) (g Mgeta) (v Me) (z (rw sizeLine_eq kM) om))
Mdbg (r (aN (aY.of (ai ?x jG (OpG.of2 tG)) ?d) aH) (x Me) (d rfl))"
def art:String := " aA:12:2: aE:9:1: a8:10:1: aw.sub:10:2: aw.st:10:2: aq.st:10:2: aG.st:10:2: aG.of:10:2: aY.of:10:2: aN:14:2: bL:14:2: aB:13:2:III aT:10:1: ai:16:3:U bf:17:2:J bO:10:1:I cD:13:2: dw:14:2: fA:13:2: bV:10:2:I"
section
open Lean
def bu (f:Syntax->Syntax):Nat->Syntax->Syntax
  | n+1,.node i k a=>f (.node i k (mp (bu f n) a))
  | _,x=>x
def axp (x:Syntax):Option Syntax:=
  let h:=nth x 0
  if x.getKind == `Lean.Parser.Term.app && h.isIdent then
    match art.splitOn (" " ++ h.getId.toString ++ ":") with
    | [_,r]=>match ((r.splitOn " ").headD "").splitOn ":" with
      | [a,b,c]=>
        let xs:=(nth x 1).getArgs
        let k:=fo (fun k y=>if y.isOfKind `Lean.Parser.Term.namedArgument then k+1 else k) 0 xs
        if xs.size==k+b.toNat! then some (ap (T "(E.explicit @ $0)" #[h]) (xs.extract 0 k++KT (a.toNat! - k) (T "(E.hole _)" #[])++foL (fun a c=>a.push (T "(E.byTactic by $0)" #[if c == 'I' then aI else if c == 'J' then aJ else aU])) c.toList (xs.extract k xs.size))) else none
      | _=>none
    | _=>none
  else none
/-- refine': the rules of the table with all their places (the elaborator looks for no default argument behind the last) -/
def ax (t:Syntax):Option Syntax:=
  if (t.find? fun x=>(axp x).isSome).isSome then some (T "(T.refine' x $0)" #[bu (fun x=>(axp x).getD x) 99 t]) else none
end
end
noncomputable abbrev cL (hot:List Addr) (h:Heap):Heap:=hideAll h hot
theorem zN {hot:List Addr} {h h':Heap} (k:∀ b o,b∉hot->h.get? b=some o->h'.get? b=some o):∀ b o,(cL hot h).get? b=some o->(cL hot h').get? b=some o:=by
 intro b o e
 have hb:b∉hot:=fun hm=>by rw [Hw hot hm] at e;cases e
 exact Fc hot (k b o hb (Ez hot e)) hb
theorem hU {hot hot':List Addr} {h:Heap} (s:∀ a∈hot,a∈hot'):∀ b o,(cL hot' h).get? b=some o->(cL hot h).get? b=some o:=by
 intro b o e
 have hb:b∉hot':=fun hm=>by rw [Hw hot' hm] at e;cases e
 exact Fc hot (Ez hot' e) fun hm=>hb (s b hm)
theorem mC {h:Heap} {v:Value} {d:PyData} {bs:List Addr} (r:Reads h v d bs) {vs:List Value} {ds:List PyData} {as:List Addr} (q:FZ h vs ds as):∃ cs,FZ h (vs++[v]) (ds++[d]) cs:=by
 induction ds generalizing vs as with
 | nil=>cases q using RA0;exact ⟨_,.cons r .nil⟩
 | cons d ds ih=>cases q using RA1 with
  | cons r' t=>exact let ⟨_,z⟩:=ih t;⟨_,.cons r' z⟩
theorem a9 {h:Heap} {vs:List Value} {ds:List PyData} {as:List Addr} (q:FZ h vs ds as):vs.length=ds.length:=by
 induction ds generalizing vs as with
 | nil=>cases q using RA0;rfl
 | cons d ds ih=>cases q using RA1 with
  | cons r' t=>exact congrArg (· + 1) (ih t)
section
variable {prog:Fq} {w:World} {A:Around} {R:Result->Shared->Prop} {s:Shared}
end
section
open PySem
theorem wh (h:Heap) (a:Addr) (f:Obj->Obj):(h.update a f).objs.size=h.objs.size:=(G7.update (h:=h) (a:=a) (f:=f)).1
theorem jt (s:Shared) (g:Nat) (x:K7):(s.setGen g x).gens.size=s.gens.size:=Array.size_setIfInBounds
noncomputable def Up (s s':Shared):Prop:=s.heap.objs.size<=s'.heap.objs.size/\s.toks<=s'.toks/\s.gens.size<=s'.gens.size
section
variable {s s' s'':Shared}
theorem Up.refl:Up s s:=⟨EK _,EK _,EK _⟩
theorem Up.trans (a:Up s s') (b:Up s' s''):Up s s'':=⟨EH a.1 b.1,EH a.2.1 b.2.1,EH a.2.2 b.2.2⟩
theorem Up.upd {a:Addr} {f:Obj->Obj}:Up s {s with heap:=s.heap.update a f}:=⟨Ec (wh _ _ _).symm,EK _,EK _⟩
theorem Up.push {o:Obj}:Up s {s with heap:=s.heap.push o}:=⟨by rw [EU];exact Ej _,EK _,EK _⟩
theorem Up.tok:Up s {s with toks:=s.toks+1}:=⟨EK _,Ej _,EK _⟩
theorem Up.new {c:K7}:Up s {s with gens:=s.gens.push c}:=⟨EK _,EK _,by rw [KU];exact Ej _⟩
theorem Up.set {g:Nat} {x:K7}:Up s (s.setGen g x):=⟨EK _,EK _,Ec (jt _ _ _).symm⟩
end
theorem tI {M:Model} {Γ:Ctx} {p:Pos} {t:Sem Fin} {fs:List Frame} {s s':Shared} {e:End} (h:Runs M Γ p t fs s e s'):Up s s':=by
 induction h
 all_goals first | exact .refl | assumption | exact Up.upd.trans (by assumption) | exact Up.push.trans (by assumption) | exact Up.tok.trans (by assumption) | exact Up.new.trans (by assumption) | exact a_ih.trans a_ih_1 | exact Up.set.trans a_ih | exact Up.set.trans (a_ih.trans (Up.set.trans a_ih_1)) | exact a_ih.trans (Up.set.trans a_ih_1)
theorem xY {M:Model} {Γ:Ctx} {p:Pos} {g:Nat} {r:Resume} {s s':Shared} {res:GenResult} (h:Wakes M Γ p g r s res s'):Up s s':=by
 unfold Wakes at h
 generalize s.gens[g]? = x at h
 have k:∀ {Γ p t fs},(∃ e₁ s₁,Runs M Γ p t fs (s.setGen g .running) e₁ s₁/\e₁.quiet=true/\res=e₁.result/\s'=s₁.setGen g e₁.genState)->Up s s':=fun h=>by
  obtain ⟨e₁,s₁,hr,_,_,rfl⟩:=h;exact Up.set.trans ((tI hr).trans .set)
 have k2:∀ {P:Prop},P/\s'=s->Up s s':=fun h=>h.2▸.refl
 cases x with
 | none=>exact h.elim
 | some st=>cases st with
  | fresh c=>cases r with
   | send v=>cases v<;>first | exact k h | exact k2 h
   | throw x=>exact h.2▸.set
  | suspended=>exact k h
  | running=>exact k2 h
  | finished=>exact k2 h
theorem BD {α:Type} (M:Model) (Γ:Ctx) (b:Shared) (t:Sem α):∀ (Q:α->Pos->Shared->Prop) (E:Value->Pos->Shared->Prop) (p:Pos) (s:Shared),Up b s->Sem.wp M Γ t Q E p s->
  Sem.wp M Γ t (fun a p' s'=>Up b s'/\Q a p' s') (fun e p' s'=>Up b s'/\E e p' s') p s:=by
 induction t with
 | pure a=>exact fun Q E p s hn h=>⟨hn,h⟩
 | raise e=>exact fun Q E p s hn h=>⟨hn,h⟩
 | unsupported _=>exact fun Q E p s zz h=>h
 | finish _=>exact fun Q E p s zz h=>h
 | rule _ k ih=>exact ih ()
 | «at» p' k ih=>exact fun Q E p s hn h=>ih () Q E p' s hn h
 | load a _ k ih=>exact fun Q E p s hn h=>h.elim fun o h=>⟨o,h.1,ih o Q E p s hn h.2⟩
 | update a _ f k ih=>exact fun Q E p s hn h=>⟨h.1,ih () Q E p _ (hn.trans .upd) h.2⟩
 | loadIfAlive a k ih=>exact fun Q E p s hn h=>ih _ Q E p s hn h
 | point _ k ih=>exact ih ()
 | register _ _=>exact fun Q E p s zz h=>h
 | alloc o k ih=>exact fun Q E p s hn h=>ih _ Q E p _ (hn.trans .push) h
 | fresh k ih=>exact fun Q E p s hn h=>ih _ Q E p _ (hn.trans .tok) h
 | ask k ih=>exact fun Q E p s hn h=>ih _ Q E p s hn h
 | choose src m k ih=>exact fun Q E p s hn h=>⟨h.1,ih _ Q E p _ hn h.2⟩
 | os q _ k ih=>exact fun Q E p s hn h=>ih _ Q E p _ hn h
 | call c hd _ _ k ih=>exact fun Q E p s hn h=>h.elim fun r h=>h.elim fun s' h=>⟨r,s',h.1,ih r Q E p s' (hn.trans (tI h.1)) h.2⟩
 | handled own k ih=>exact fun Q E p s hn h=>ih _ Q E p s hn h
 | genState g k ih=>exact fun Q E p s hn h=>h.elim fun st h=>⟨st,h.1,ih _ Q E p s hn h.2⟩
 | newGen c k ih=>exact fun Q E p s hn h=>ih _ Q E p _ (hn.trans .new) h
 | resume g r _ k ih=>exact fun Q E p s hn h=>h.elim fun res h=>h.elim fun s' h=>⟨res,s',h.1,ih res Q E p s' (hn.trans (xY h.1)) h.2⟩
 | yield _ _ _ _=>exact fun Q E p s zz h=>h
 | stack k ih=>exact fun Q E p s hn h=>ih _ Q E p s hn h
 | fork _ _=>exact fun Q E p s zz h=>h
 | thread k ih=>exact fun Q E p s hn h=>ih _ Q E p s hn h
 | await _ _ _ _ _=>exact fun Q E p s zz h=>h
section
variable {α:Type} {M:Model} {A:Around} {s:Shared} {t:Sem α} {Q:α->Shared->Prop} {E:Value->Shared->Prop}
theorem jc (h:wpAny M A t (fun a s'=>Up s s'->Q a s') (fun e s'=>Up s s'->E e s') s):wpAny M A t Q E s:=
 Es (Q:=fun a s'=>Up s s'/\(Up s s'->Q a s')) (E:=fun e s'=>Up s s'/\(Up s s'->E e s')) (fun Γ p hΓ=>BD M Γ _ t _ _ p s .refl (h Γ p hΓ)) (fun zz zz x=>x.2 x.1) (fun zz zz x=>x.2 x.1)
theorem ao (h:wpAny M A t (fun a s'=>s.heap.objs.size<=s'.heap.objs.size->Q a s') (fun e s'=>s.heap.objs.size<=s'.heap.objs.size->E e s') s):wpAny M A t Q E s:=
 jc (Es h (fun zz zz f u=>f u.1) (fun zz zz f u=>f u.1))
theorem rB (h:wpAny M A t (fun a s'=>s.toks<=s'.toks->Q a s') (fun e s'=>s.toks<=s'.toks->E e s') s):wpAny M A t Q E s:=
 jc (Es h (fun zz zz f u=>f u.2.1) (fun zz zz f u=>f u.2.1))
theorem qx (h:wpAny M A t (fun a s'=>s.gens.size<=s'.gens.size->Q a s') (fun e s'=>s.gens.size<=s'.gens.size->E e s') s):wpAny M A t Q E s:=
 jc (Es h (fun zz zz f u=>f u.2.2) (fun zz zz f u=>f u.2.2))
end
end
theorem ltA {a b:Nat} (h:a<b):a<b:=h
theorem leA {a b:Nat} (h:a<=b):a<=b:=h
inductive AV where
 | dat (d:PyData)
 | ref (i:Nat)
 | con (v:Value)
inductive AO where
 | list (xs:List AV)
 | inst (C:Addr) (xs:List (Str×AV))
 | slot (C:Addr) (xs:List (Option AV))
 | dict (xs:List (Int×AV))
 | set (xs:List Int)
 | iter (l k:Nat)
 | next (it:Nat)
 | deq
 | sdict (xs:List Str)
 | raw (o:Obj)
 | code (a:Addr)
noncomputable abbrev aC:=List AO
set_option genInjectivity false in
structure Mu where
 hid:List Addr
 objs:List (Addr×List Addr)
 fz:List Nat:=[]
noncomputable def Mu.foot (μ:Mu):List Addr:=μ.objs.flatMap (·.2)
theorem aj {μ:Mu} {p:Addr×List Addr} {b:Addr} (hp:p∈μ.objs) (hb:b∈p.2):b∈μ.foot:=HZ.mpr ⟨p,hp,hb⟩
noncomputable def af (μ:Mu) (h:Heap):AV->Value->Prop
 | .dat d,v=>∃ as,Reads (cL μ.hid h) v d as
 | .ref i,v=>∃ p,μ.objs[i]? = some p/\v=.ref p.1
 | .con c,v=>v=c
noncomputable def ay (μ:Mu) (h:Heap):List AV->List Value->Prop
 | [],[]=>True
 | a :: as,v :: vs=>af μ h a v/\ay μ h as vs
 | _,_=>False
theorem ay.e1 {μ:Mu} {h:Heap} {a:AV} {vs:List Value} (r:ay μ h [a] vs):∃ v,vs=[v]/\af μ h a v:=by
 cases vs with
 | nil=>exact r.elim
 | cons v vs=>cases vs with
  | nil=>exact ⟨v,rfl,r.1⟩
  | cons=>exact r.2.elim
theorem ay.e2 {μ:Mu} {h:Heap} {a b:AV} {vs:List Value} (r:ay μ h [a,b] vs):∃ u v,vs=[u,v]/\af μ h a u/\af μ h b v:=by
 cases vs with
 | nil=>exact r.elim
 | cons v vs=>exact r.2.e1.elim fun w q=>⟨v,w,by rw [q.1],r.1,q.2⟩
noncomputable def cX (P:Params) (μ:Mu) (h:Heap):List (Str×AV)->List GT->Prop
 | [],[]=>True
 | (x,a) :: as,e :: es=>(e.hash=H0 P x/\(∃ t,e.key=.str x t)/\af μ h a e.val)/\cX P μ h as es
 | _,_=>False
noncomputable def eY (μ:Mu) (h:Heap):Option AV->Option Value->Prop
 | none,none=>True
 | some a,some v=>af μ h a v
 | _,_=>False
noncomputable def cq (μ:Mu) (h:Heap):List (Option AV)->List (Option Value)->Prop
 | [],[]=>True
 | a :: as,v :: vs=>eY μ h a v/\cq μ h as vs
 | _,_=>False
noncomputable def cF (μ:Mu) (h:Heap):List (Int×AV)->List (Int×Value)->Prop
 | [],[]=>True
 | (k,a) :: as,(k',v) :: vs=>(k=k'/\af μ h a v)/\cF μ h as vs
 | _,_=>False
@[elab_as_elim] theorem ay.ind {μ:Mu} {h:Heap} {motive:List AV->List Value->Prop} {as:List AV} {vs:List Value} (r:ay μ h as vs) (h0:motive [] [])
  (h1:∀ a v as vs,af μ h a v->ay μ h as vs->motive as vs->motive (a :: as) (v :: vs)):motive as vs:=by
 induction as generalizing vs with
 | nil=>cases vs with
  | nil=>exact h0
  | cons _ _=>exact r.elim
 | cons p as ih=>cases vs with
  | nil=>exact r.elim
  | cons q vs=>exact h1 _ _ _ _ r.1 r.2 (ih r.2)
@[elab_as_elim] theorem cX.ind {P:Params} {μ:Mu} {h:Heap} {motive:List (Str×AV)->List GT->Prop} {as:List (Str×AV)} {vs:List GT} (r:cX P μ h as vs) (h0:motive [] [])
  (h1:∀ x a e as vs,e.hash=H0 P x/\(∃ t,e.key=.str x t)/\af μ h a e.val->cX P μ h as vs->motive as vs->motive ((x,a) :: as) (e :: vs)):motive as vs:=by
 induction as generalizing vs with
 | nil=>cases vs with
  | nil=>exact h0
  | cons _ _=>exact r.elim
 | cons p as ih=>cases vs with
  | nil=>exact r.elim
  | cons q vs=>exact h1 p.1 p.2 q _ _ r.1 r.2 (ih r.2)
@[elab_as_elim] theorem cq.ind {μ:Mu} {h:Heap} {motive:List (Option AV)->List (Option Value)->Prop} {as:List (Option AV)} {vs:List (Option Value)} (r:cq μ h as vs) (h0:motive [] [])
  (h1:∀ a v as vs,eY μ h a v->cq μ h as vs->motive as vs->motive (a :: as) (v :: vs)):motive as vs:=by
 induction as generalizing vs with
 | nil=>cases vs with
  | nil=>exact h0
  | cons _ _=>exact r.elim
 | cons p as ih=>cases vs with
  | nil=>exact r.elim
  | cons q vs=>exact h1 _ _ _ _ r.1 r.2 (ih r.2)
@[elab_as_elim] theorem cF.ind {μ:Mu} {h:Heap} {motive:List (Int×AV)->List (Int×Value)->Prop} {xs:List (Int×AV)} {kvs:List (Int×Value)} (r:cF μ h xs kvs) (h0:motive [] [])
  (h1:∀ k a v xs kvs,af μ h a v->motive xs kvs->motive ((k,a) :: xs) ((k,v) :: kvs)):motive xs kvs:=by
 induction xs generalizing kvs with
 | nil=>cases kvs with
  | nil=>exact h0
  | cons _ _=>exact r.elim
 | cons p xs ih=>
  obtain ⟨k,a⟩:=p
  cases kvs with
  | nil=>exact r.elim
  | cons q kvs=>
   obtain ⟨k2,v⟩:=q;obtain ⟨⟨rfl,hv⟩,r⟩:=r;exact h1 _ _ _ _ _ hv (ih r)
set_option genInjectivity false in
structure Cx where
 prog:Fq
 w:World
 K:Frag
 h0:Heap
 mg:Str->Option Value
 mb:Str->Option Value
structure Cx.Ok (C:Cx):Prop where
 K:C.K.In C.h0
 g:C.h0.Ns Go C.mg
 b:C.h0.Ns Hb C.mb
 lim:C.h0.NoLimit
 sys:∃ o,C.h0.get? JX=some o
 bmod:∃ bm ob,BMod C.h0 Go C.mg bm ob
 blt:∀ x:Str,x ≠ "__name__" -> C.mb x=bootBuiltins x
noncomputable def ek (C:Cx) (μ:Mu) (h:Heap) (p:Addr×List Addr):AO->Prop
 | .list xs=>p.2=[p.1]/\∃ vs:Array Value,h.PlainList p.1 vs/\ay μ h xs vs.toList
 | .inst c xs=>∃ dx es n,p.2=[p.1,dx]/\p.1≠dx/\h.get? p.1=some (Gs c dx)/\h.get? dx=some (dictOf es n)/\cX C.w.params μ h xs es
 | .slot c xs=>∃ (vs:Array (Option Value)) (dx:Addr),p.2=[p.1,dx]/\p.1≠dx/\h.get? p.1=some {cls:=.ref c,dict:=some dx,data:=.plain,slots:=vs}/\h.get? dx=some emptyDict/\cq μ h xs vs.toList
 | .dict xs=>p.2=[p.1]/\∃ kvs,h.DictOf (Gm C.prog C.w) p.1 kvs/\cF μ h xs kvs
 | .set xs=>p.2=[p.1]/\h.SetOf (Gm C.prog C.w) p.1 (fun k=>xs.contains k) xs.length
 | .iter l k=>p.2=[p.1]/\∃ q,μ.objs[l]? = some q/\h.get? p.1=some {cls:=.type "list_iterator",data:=.fields #[.ref q.1,.int k 0]}
 | .next it=>p.2=[p.1]/\∃ q,μ.objs[it]? = some q/\h.get? p.1=some {cls:=.type "method-wrapper",data:=.fields #[.builtin "list_iterator.__next__",.ref q.1]}
 | .deq=>p.2=[p.1]/\∃ o,h.get? p.1=some o
 | .sdict xs=>p.2=[p.1]/\h.DictOf (PySem.strKind C.prog C.w) p.1 (xs.map fun k=>(k,FE))
 | .raw o=>p.2=[p.1]/\h.get? p.1=some o
 | .code a=>p.2=[p.1]/\p.1=a/\∃ ps:Array Value,h.get? p.1=some {cls:=.none,data:=.fields ps}/\TriplesOk ps.toList
noncomputable def FA (A:Around) (b:Addr):Prop:=∃ l,A.frames=some l/\∃ env∈l,env.frame=some b
noncomputable abbrev A0:Around:={}
theorem nV {b:Addr}:¬ FA A0 b:=fun h=>h.elim fun zz e=>nc Option.ctorIdx e.1 rfl
noncomputable def aL (A:Around) (W:Addr->Prop) (s s':Shared):Prop:=∃ h' g' tk,s'={s with heap:=h',gens:=g',toks:=tk}/\(s.heap.objs.size<=h'.objs.size/\(Kj s.gens->Kj g')) /\
 ∀ b o,¬ W b->s.heap.get? b=some o->h'.get? b=some o\/(FA A b/\(∃ es n,o.data=.dict es n)/\∃ o',h'.get? b=some o'/\o'.data=o.data)
noncomputable def NoW:Addr->Prop:=fun zz=>False
section
variable {A:Around} {W W':Addr->Prop} {s s':Shared}
theorem aL.refl (A:Around) (W:Addr->Prop) (s:Shared):aL A W s s:=⟨_,_,_,rfl,⟨EK _,id⟩,fun zz zz zz e=>.inl e⟩
theorem aL.le (k:aL A W s s'):s.heap.objs.size<=s'.heap.objs.size:=by obtain ⟨h',g',tk,rfl,l,_⟩:=k;exact l.1
theorem aL.bare (k:aL A W s s') (h:Kj s.gens):Kj s'.gens:=by obtain ⟨h',g',tk,rfl,l,_⟩:=k;exact l.2 h
theorem aL.like (k:aL A W s s') {b:Addr} {o:Obj} (hb:¬ W b) (e:s.heap.get? b=some o):∃ o',s'.heap.get? b=some o'/\o'.data=o.data:=by
 obtain ⟨h',g',tk,rfl,_,x⟩:=k
 rcases x b o hb e with q | ⟨_,_,o',q,r⟩
 ·exact ⟨o,q,rfl⟩
 ·exact ⟨o',q,r⟩
theorem aL.at (k:aL A W s s') {b:Addr} {o:Obj} (hb:¬ W b) (hF:¬ FA A b) (e:s.heap.get? b=some o):s'.heap.get? b=some o:=by
 obtain ⟨h',g',tk,rfl,_,x⟩:=k
 exact (x b o hb e).elim id fun q=>absurd q.1 hF
theorem aL.atD (k:aL A W s s') {b:Addr} {o:Obj} (hb:¬ W b) (hD:∀ es n,o.data≠.dict es n) (e:s.heap.get? b=some o):s'.heap.get? b=some o:=by
 obtain ⟨h',g',tk,rfl,_,x⟩:=k
 exact (x b o hb e).elim id fun ⟨_,⟨es,n,q⟩,_⟩=>absurd q (hD es n)
theorem aL.up (k:aL A0 NoW s s'):∀ b o,s.heap.get? b=some o->s'.heap.get? b=some o:=fun zz zz e=>k.at id nV e
theorem aL.lift (k:aL A0 NoW s s'):aL A W s s':=by
 obtain ⟨h',g',tk,rfl,l,x⟩:=k
 exact ⟨h',g',tk,rfl,l,fun b o zz e=>.inl ((x b o id e).elim id fun q=>absurd q.1 nV)⟩
theorem aL.mono (k:aL A W s s') (h:∀ b,W b->W' b\/s.heap.objs.size<=b):aL A W' s s':=by
 obtain ⟨h',g',tk,rfl,l,x⟩:=k
 refine ⟨h',g',tk,rfl,l,fun b o hb e=>x b o (fun hm=>?_) e⟩
 rcases h b hm with q | q
 ·exact hb q
 ·exact absurd (Ed e) (E3.mpr q)
theorem aL.frames {A':Around} (k:aL A W s s') (h:∀ b,FA A b->FA A' b\/W b\/s.heap.objs.size<=b):aL A' W s s':=by
 obtain ⟨h',g',tk,rfl,l,x⟩:=k
 refine ⟨h',g',tk,rfl,l,fun b o hb e=>(x b o hb e).imp id fun q=>⟨?_,q.2⟩⟩
 rcases h b q.1 with q | q | q
 ·exact q
 ·exact absurd q hb
 ·exact absurd (Ed e) (E3.mpr q)
theorem aL.trans {a b c:Shared} (x:aL A W a b) (y:aL A W' b c) (h:∀ d,W' d->W d\/a.heap.objs.size<=d):aL A W a c:=by
 obtain ⟨h1,g1,t1,rfl,l1,k1⟩:=x
 obtain ⟨h2,g2,t2,rfl,l2,k2⟩:=y
 refine ⟨h2,g2,t2,rfl,⟨EH l1.1 l2.1,fun q=>l2.2 (l1.2 q)⟩,fun d o hd e=>?_⟩
 have hd':¬ W' d:=fun hm=>by
  rcases h d hm with q | q
  ·exact hd q
  ·exact absurd (Ed e) (E3.mpr q)
 rcases k1 d o hd e with q | ⟨f,dd,o1,q,r⟩
 ·exact k2 d o hd' q
 ·rcases k2 d o1 hd' q with q2 | ⟨_,_,o2,q2,r2⟩
  ·exact .inr ⟨f,dd,o1,q2,r⟩
  ·exact .inr ⟨f,dd,o2,q2,r2.trans r⟩
end
structure Ext (μ μ':Mu) (n:Nat):Prop where
 grow:∃ t,μ'.objs=μ.objs++t/\∀ p∈t,∀ b∈p.2,n<=b
 sub:∀ b∈μ.hid,b∈μ'.hid
 new:∀ b∈μ'.hid,b∈μ.hid\/n<=b
theorem Ext.refl (μ:Mu) (n:Nat):Ext μ μ n:=⟨⟨[],by simp,jI⟩,fun zz h=>h,fun zz h=>.inl h⟩
theorem Ext.objs {μ μ':Mu} {n:Nat} (x:Ext μ μ' n):∃ t,μ'.objs=μ.objs++t:=let ⟨t,e,_⟩:=x.grow;⟨t,e⟩
theorem Ext.foot {μ μ':Mu} {n:Nat} (x:Ext μ μ' n):∀ b∈μ'.foot,b∈μ.foot\/n<=b:=by
 intro b hb
 obtain ⟨t,e,h⟩:=x.grow
 unfold Mu.foot at hb ⊢
 rw [e,List.flatMap_append,EG] at hb
 exact hb.imp id fun hb=>let ⟨p,hp,h2⟩:=HZ.mp hb;h p hp b h2
theorem Ext.trans {a b c:Mu} {n m:Nat} (x:Ext a b n) (y:Ext b c m) (h:n<=m):Ext a c n:=by
 refine ⟨?_,fun b h=>y.sub b (x.sub b h),fun b hb=>?_⟩
 ·obtain ⟨t,e,f⟩:=x.grow;obtain ⟨t',e',f'⟩:=y.grow
  refine ⟨t++t',by rw [e',e,FK],fun p hp b hb=>?_⟩
  rcases EG.mp hp with q | q
  ·exact f p q b hb
  ·exact EH h (f' p q b hb)
 ·rcases y.new b hb with q | q
  ·exact x.new b q
  ·exact .inr (EH h q)
theorem Ext.get {μ μ':Mu} {n i:Nat} {p:Addr×List Addr} (x:Ext μ μ' n) (h:μ.objs[i]? = some p):μ'.objs[i]? = some p:=by
 obtain ⟨t,e⟩:=x.objs
 rw [e,Eg (EL.mp h).1];exact h
theorem lL {A:Around} {μ μ':Mu} {W:Addr->Prop} {s s':Shared} (x:Ext μ μ' s.heap.objs.size) (k:aL A W s s') (hW:∀ b,W b\/FA A b->b∈μ.hid\/s.heap.objs.size<=b) :
  ∀ b o,(cL μ.hid s.heap).get? b=some o->(cL μ'.hid s'.heap).get? b=some o:=by
 intro b o e
 have hb:b∉μ.hid:=fun hm=>by rw [Hw _ hm] at e;cases e
 have e':=Ez _ e
 have hl:=Ed e'
 refine Fc _ (k.at (fun hm=>?_) (fun hm=>?_) e') fun hm=>?_
 ·rcases hW b (.inl hm) with q | q
  ·exact hb q
  ·exact absurd hl (E3.mpr q)
 ·rcases hW b (.inr hm) with q | q
  ·exact hb q
  ·exact absurd hl (E3.mpr q)
 ·rcases x.new b hm with q | q
  ·exact hb q
  ·exact absurd hl (E3.mpr q)
theorem ut {h h':Heap} (k:∀ b o,(∀ vs,o.data≠.fields vs)->h.get? b=some o->h'.get? b=some o) {v:Value} {d:PyData} {as:List Addr} (r:Reads h v d as):Reads h' v d as:=by
 have key:∀ {b:Addr} {o:Obj},(∀ vs,o.data≠.fields vs)->h.get? b=some o->h'.get? b=some o:=fun q e=>k _ _ q e
 refine Reads.rec (motive_1:=fun v d as zz=>Reads h' v d as) (motive_2:=fun v d as zz=>FZ h' v d as) .none .bool .int .str ?_ ?_ ?_ .nil ?_ r
 ·intro a o vs n xs as ho hc hd _ ih;exact .list (key (fun zz q=>nc LU (hd.symm.trans q) rfl) ho) hc hd ih
 ·intro a o vs n xs as ho hc hd _ ih;exact .tuple (key (fun zz q=>nc LU (hd.symm.trans q) rfl) ho) hc hd ih
 ·intro a o es n kvs as bs ho hc hd _ _ i1 i2;exact .dict (key (fun zz q=>nc LU (hd.symm.trans q) rfl) ho) hc hd i1 i2
 ·intro v vs d ds as bs _ _ i1 i2;exact .cons i1 i2
structure Mov (μ μ':Mu) (h h':Heap):Prop where
 obj:∀ (i:Nat) p,μ.objs[i]? = some p->μ'.objs[i]? = some p
 rd:∀ {v:Value} {d:PyData} {as:List Addr},Reads (cL μ.hid h) v d as->Reads (cL μ'.hid h') v d as
theorem Mov.trans {a b c:Mu} {h1 h2 h3:Heap} (x:Mov a b h1 h2) (y:Mov b c h2 h3):Mov a c h1 h3:=⟨fun i p e=>y.obj i p (x.obj i p e),fun r=>y.rd (x.rd r)⟩
theorem Mov.eqL {a a' b:Mu} {h1 h2:Heap} (x:Mov a b h1 h2) (h:a.hid=a'.hid) (o:a.objs=a'.objs):Mov a' b h1 h2:=⟨fun i p e=>x.obj i p (o▸e),fun r=>x.rd (h▸r)⟩
theorem Mov.eqR {a b b':Mu} {h1 h2:Heap} (x:Mov a b h1 h2) (h:b.hid=b'.hid) (o:b.objs=b'.objs):Mov a b' h1 h2:=⟨fun i p e=>o▸x.obj i p e,fun r=>h▸x.rd r⟩
section
variable {μ μ':Mu} {h h':Heap} (m:Mov μ μ' h h')
include m
theorem af.move {a:AV} {v:Value} (r:af μ h a v):af μ' h' a v:=by
 cases a with
 | dat d=>obtain ⟨as,r⟩:=r;exact ⟨as,m.rd r⟩
 | ref i=>obtain ⟨p,e,q⟩:=r;exact ⟨p,m.obj i p e,q⟩
 | con c=>exact r
theorem ay.move {as:List AV} {vs:List Value} (r:ay μ h as vs):ay μ' h' as vs:=ay.ind r trivial fun zz zz zz zz hv zz ih=>⟨af.move m hv,ih⟩
theorem cX.move {P:Params} {as:List (Str×AV)} {vs:List GT} (r:cX P μ h as vs):cX P μ' h' as vs:=cX.ind r trivial fun zz zz zz zz zz hv zz ih=>⟨⟨hv.1,hv.2.1,af.move m hv.2.2⟩,ih⟩
theorem eY.move {a:Option AV} {v:Option Value} (r:eY μ h a v):eY μ' h' a v:=by
 cases a with
 | none=>cases v with
  | none=>exact trivial
  | some _=>exact r.elim
 | some _=>cases v with
  | none=>exact r.elim
  | some _=>exact af.move m r
theorem cq.move {as:List (Option AV)} {vs:List (Option Value)} (r:cq μ h as vs):cq μ' h' as vs:=cq.ind r trivial fun zz zz zz zz hv zz ih=>⟨eY.move m hv,ih⟩
theorem cF.move {as:List (Int×AV)} {vs:List (Int×Value)} (r:cF μ h as vs):cF μ' h' as vs:=cF.ind r trivial fun zz zz zz zz zz hv ih=>⟨⟨rfl,af.move m hv⟩,ih⟩
theorem ek.move {C:Cx} {p:Addr×List Addr} {o:AO} (hp:∀ b∈p.2,∀ o,h.get? b=some o->h'.get? b=some o) (r:ek C μ h p o):ek C μ' h' p o:=by
 cases o with
 | list xs=>obtain ⟨e,vs,l,r⟩:=r;exact ⟨e,vs,l.at (hp _ (by rw [e];exact .head _)),ay.move m r⟩
 | inst c xs=>
  obtain ⟨dx,es,n,e,ne,o1,o2,r⟩:=r;exact ⟨dx,es,n,e,ne,hp _ (by rw [e];exact .head _) _ o1,hp _ (by rw [e];exact .tail _ (.head _)) _ o2,cX.move m r⟩
 | slot c xs=>obtain ⟨vs,dx,e,ne,o1,o2,r⟩:=r;exact ⟨vs,dx,e,ne,hp _ (by rw [e];exact .head _) _ o1,hp _ (by rw [e];exact .tail _ (.head _)) _ o2,cq.move m r⟩
 | dict xs=>obtain ⟨e,kvs,⟨o,es,ep,d,r1⟩,r⟩:=r;exact ⟨e,kvs,⟨o,es,ep,hp _ (by rw [e];exact .head _) _ d,r1⟩,cF.move m r⟩
 | set xs=>obtain ⟨e,o,es,ep,t,ho,r⟩:=r;exact ⟨e,o,es,ep,t,hp _ (by rw [e];exact .head _) _ ho,r⟩
 | iter l n=>obtain ⟨e,q,hq,ho⟩:=r;exact ⟨e,q,m.obj _ _ hq,hp _ (by rw [e];exact .head _) _ ho⟩
 | next l=>obtain ⟨e,q,hq,ho⟩:=r;exact ⟨e,q,m.obj _ _ hq,hp _ (by rw [e];exact .head _) _ ho⟩
 | deq=>obtain ⟨e,o,ho⟩:=r;exact ⟨e,o,hp _ (by rw [e];exact .head _) _ ho⟩
 | sdict xs=>obtain ⟨e,o,es,ep,d,r1⟩:=r;exact ⟨e,o,es,ep,hp _ (by rw [e];exact .head _) _ d,r1⟩
 | raw o=>obtain ⟨e,ho⟩:=r;exact ⟨e,hp _ (by rw [e];exact .head _) _ ho⟩
 | code a=>obtain ⟨e,e2,ps,ho,r⟩:=r;exact ⟨e,e2,ps,hp _ (by rw [e];exact .head _) _ ho,r⟩
end
theorem ek.there {C:Cx} {μ:Mu} {h:Heap} {p:Addr×List Addr} {o:AO} (r:ek C μ h p o):∀ b∈p.2,∃ ob,h.get? b=some ob:=by
 intro b hb
 cases o with
 | list xs=>obtain ⟨e,vs,⟨n,l⟩,_⟩:=r;rw [e] at hb;exact ⟨_,EJ.mp hb▸l⟩
 | inst c xs=>
  obtain ⟨dx,es,n,e,ne,o1,o2,r⟩:=r
  rw [e] at hb
  rcases EV.mp hb with rfl | hb
  ·exact ⟨_,o1⟩
  ·exact ⟨_,EJ.mp hb▸o2⟩
 | slot c xs=>
  obtain ⟨vs,dx,e,ne,o1,o2,r⟩:=r
  rw [e] at hb
  rcases EV.mp hb with rfl | hb
  ·exact ⟨_,o1⟩
  ·exact ⟨_,EJ.mp hb▸o2⟩
 | dict xs=>obtain ⟨e,kvs,⟨o,es,ep,d,r1⟩,r⟩:=r;rw [e] at hb;exact ⟨_,EJ.mp hb▸d⟩
 | set xs=>obtain ⟨e,o,es,ep,t,ho,r⟩:=r;rw [e] at hb;exact ⟨_,EJ.mp hb▸ho⟩
 | iter l n=>obtain ⟨e,q,hq,ho⟩:=r;rw [e] at hb;exact ⟨_,EJ.mp hb▸ho⟩
 | next l=>obtain ⟨e,q,hq,ho⟩:=r;rw [e] at hb;exact ⟨_,EJ.mp hb▸ho⟩
 | deq=>obtain ⟨e,o,ho⟩:=r;rw [e] at hb;exact ⟨_,EJ.mp hb▸ho⟩
 | sdict xs=>obtain ⟨e,o,es,ep,d,r1⟩:=r;rw [e] at hb;exact ⟨_,EJ.mp hb▸d⟩
 | raw o=>obtain ⟨e,ho⟩:=r;rw [e] at hb;exact ⟨_,EJ.mp hb▸ho⟩
 | code a=>obtain ⟨e,_,_,ho,_⟩:=r;rw [e] at hb;exact ⟨_,EJ.mp hb▸ho⟩
section
variable {A:Around} {μ μ':Mu} {W:Addr->Prop} {s s':Shared} (x:Ext μ μ' s.heap.objs.size) (k:aL A W s s') (hW:∀ b,W b\/FA A b->b∈μ.hid\/s.heap.objs.size<=b)
include x k hW
theorem Mov.of:Mov μ μ' s.heap s'.heap:=⟨fun zz zz e=>x.get e,fun r=>PyProof.Rows.Reads.keeps (lL x k hW) r⟩
theorem af.mono {a:AV} {v:Value} (h:af μ s.heap a v):af μ' s'.heap a v:=h.move (.of x k hW)
theorem ay.mono {as:List AV} {vs:List Value} (h:ay μ s.heap as vs):ay μ' s'.heap as vs:=ay.move (.of x k hW) h
theorem cX.mono {P:Params} {as:List (Str×AV)} {vs:List GT} (h:cX P μ s.heap as vs):cX P μ' s'.heap as vs:=cX.move (.of x k hW) h
theorem cq.mono {as:List (Option AV)} {vs:List (Option Value)} (h:cq μ s.heap as vs):cq μ' s'.heap as vs:=cq.move (.of x k hW) h
theorem cF.mono {as:List (Int×AV)} {vs:List (Int×Value)} (h:cF μ s.heap as vs):cF μ' s'.heap as vs:=cF.move (.of x k hW) h
theorem ek.mono {C:Cx} {p:Addr×List Addr} {o:AO} (hp:∀ b∈p.2,∀ o,s.heap.get? b=some o->s'.heap.get? b=some o) (h:ek C μ s.heap p o):ek C μ' s'.heap p o:=ek.move (.of x k hW) hp h
end
theorem Mov.records {A:Around} {μ:Mu} {W:Addr->Prop} {s s':Shared} (k:aL A W s s') (hW:∀ b,W b->∃ o vs,s.heap.get? b=some o/\o.data=.fields vs) (hF:∀ b,FA A b->b∈μ.hid):Mov μ μ s.heap s'.heap:=
 ⟨fun zz zz e=>e,fun r=>ut (fun b o hd e=>by
  have hb:b∉μ.hid:=fun hm=>by rw [Hw _ hm] at e;cases e
  have e':=Ez _ e;refine Fc _ (k.at (fun hw=>?_) (fun hf=>hb (hF b hf)) e') hb
  obtain ⟨o',vs,ho',hd'⟩:=hW b hw
  rw [e'] at ho';cases ho'
  exact hd vs hd') r⟩
structure Sim (C:Cx) (μ:Mu) (σ:aC) (h:Heap):Prop where
 len:μ.objs.length=σ.length
 rep:∀ (i:Nat) p o,μ.objs[i]? = some p->σ[i]? = some o->ek C μ h p o
 foot:∀ b∈μ.foot,b∈μ.hid
 apart:μ.objs.Pairwise fun p q=>∀ b∈p.2,b∉q.2
 self:∀ p∈μ.objs,p.1∈p.2
set_option genInjectivity false in
structure Lv where
 q:Bool
 n:Nat
 fz:List Nat
structure Frs (A:Around) (μ:Mu) (h:Heap):Prop where
 all:∃ l,A.frames=some l/\∀ env∈l,env.scope.kind≠.module/\∃ L,env.frame=some L/\L∈μ.hid/\L∉μ.foot/\∃ o es n,h.get? L=some o/\o.data=.dict es n
theorem Frs.fa {A:Around} {μ:Mu} {h:Heap} (f:Frs A μ h) {b:Addr} (hb:FA A b):b∈μ.hid/\b∉μ.foot/\∃ o es n,h.get? b=some o/\o.data=.dict es n:=by
 obtain ⟨l,e,H⟩:=f.all
 obtain ⟨l',e',env,hm,hf⟩:=hb
 rw [e] at e';cases e'
 obtain ⟨_,L,hL,r⟩:=H env hm
 rw [hf] at hL;cases hL
 exact r
structure aX (C:Cx) (l:Lv) (A:Around) (μ:Mu) (σ:aC) (s:Shared):Prop where
 quiet:l.q=true->A.handled=none
 frz:μ.fz=l.fz
 room:A.depth+4 * l.n+20<recursionLimit
 units:A.units+16 * l.n+200<cLine
 top:C.h0.objs.size<=s.heap.objs.size
 base:∀ b o,C.h0.get? b=some o->s.heap.get? b=some o
 low:∀ b∈μ.hid,C.h0.get? b=none
 lt:∀ b∈μ.hid,b<s.heap.objs.size
 sim:Sim C μ σ s.heap
 frs:Frs A μ s.heap
noncomputable def du (env:Env) (m:Str->Option Value) (μ:Mu) (h:Heap) (x:Str) (a:AV):Prop:=
 ∃ v,af μ h a v/\((env.kindOf x=some .local/\m x=some v)\/((env.kindOf x=some .cell\/env.kindOf x=some .free)/\∃ c,env.cells.lookup x=some c/\h.IsCell c (some v)))
noncomputable abbrev aF:=List (Str×Ee)
noncomputable abbrev aO:=List (Option AV)
noncomputable def fE (env:Env) (m:Str->Option Value) (μ:Mu) (h:Heap):aF->aO->Prop
 | (x,_) :: N,some a :: ρ=>du env m μ h x a/\fE env m μ h N ρ
 | _ :: N,none :: ρ=>fE env m μ h N ρ
 | _,[]=>True
 | [],_ :: _=>False
structure aM (A:Around) (N:aF) (env:Env) (μ:Mu) (ρ:aO) (h:Heap):Prop where
 fn:env.scope.kind=.function
 glob:env.globals=Go
 blt:env.builtins=Hb
 nodup:(N.map (·.1)).Nodup
 plain:∀ p∈N,(p.1==("__debug__" : Str))=false/\(p.1==("__classdict__" : Str))=false
 kinds:∀ p∈N,env.kindOf p.1=some p.2\/(p.2=.free/\env.kindOf p.1=some .cell)
 hidL:env.locals∈μ.hid
 freeL:env.locals∉μ.foot
 cellsIn:∀ p∈N,p.2=.cell\/p.2=.free->∃ c,env.cells.lookup p.1=some c
 cells:∀ p∈env.cells,p.2∈μ.hid/\p.2∉μ.foot/\p.2≠env.locals/\∃ v,h.IsCell p.2 v
 apart:∀ p∈env.cells,∀ q∈env.cells,p.2=q.2->p.1=q.1
 fe:∃ L,env.frame=some L/\FA A L
 vals:∃ m,h.Ns env.locals m/\fE env m μ h N ρ
noncomputable def WS (μ:Mu) (N:aF) (env:Env):Addr->Prop:=fun b=>(∃ i p,μ.objs[i]? = some p/\i∉μ.fz/\b∈p.2)\/b=env.locals\/∃ x,(x,Ee.cell)∈N/\env.cells.lookup x=some b
noncomputable def WC (μ:Mu):Addr->Prop:=fun b=>∃ i p,μ.objs[i]? = some p/\i∉μ.fz/\b∈p.2
theorem bG {α:Type} {x:Str} {c:α} {l:List (Str×α)} (h:l.lookup x=some c):(x,c)∈l:=by
 induction l with
 | nil=>cases h
 | cons p l ih=>
  obtain ⟨y,d⟩:=p
  rw [GU] at h
  cases q:x==y with
  | true=>
   rw [q] at h
   cases h
   rw [eq_of_beq q];exact .head _
  | false=>rw [q] at h;exact .tail _ (ih h)
theorem WC.foot {μ:Mu} {b:Addr} (h:WC μ b):b∈μ.foot:=let ⟨_,_,hp,_,hb⟩:=h;aj (EN hp) hb
theorem WC.ext {μ μ':Mu} {n:Nat} (x:Ext μ μ' n) (hz:μ'.fz=μ.fz) {b:Addr} (h:WC μ' b):WC μ b\/n<=b:=by
 obtain ⟨i,p,hp,hi,hb⟩:=h
 obtain ⟨t,e,f⟩:=x.grow
 by_cases hlt:i<μ.objs.length
 ·rw [e,Eg hlt] at hp
  exact .inl ⟨i,p,hp,hz▸hi,hb⟩
 ·rw [e,E2 (E3.mp hlt)] at hp
  exact .inr (f p (EN hp) b hb)
theorem noW {P:Addr->Prop}:∀ b,NoW b\/FA A0 b->P b:=fun b hb=>hb.elim (fun h=>h.elim) fun h=>absurd h nV
theorem aX.fw {C:Cx} {lv:Lv} {A:Around} {μ:Mu} {σ:aC} {s:Shared} {W:Addr->Prop} {n:Nat} (G:aX C lv A μ σ s) (h:∀ b,W b->b∈μ.hid\/n<=b):∀ b,W b\/FA A b->b∈μ.hid\/n<=b:=
 fun b hb=>hb.elim (h b) fun q=>.inl (G.frs.fa q).1
theorem aX.notFA {C:Cx} {lv:Lv} {A:Around} {μ:Mu} {σ:aC} {s:Shared} {b:Addr} (G:aX C lv A μ σ s) (h:b∈μ.foot):¬ FA A b:=fun q=>(G.frs.fa q).2.1 h
theorem aX.notFA0 {C:Cx} {lv:Lv} {A:Around} {μ:Mu} {σ:aC} {s:Shared} {b:Addr} {o:Obj} (G:aX C lv A μ σ s) (h:C.h0.get? b=some o):¬ FA A b:=fun q=>by rw [G.low b (G.frs.fa q).1] at h;cases h
theorem dC {C:Cx} {N:aF} {env:Env} {μ:Mu} {σ:aC} {ρ:aO} {h h':Heap} (G:Sim C μ σ h) (F:aM A N env μ ρ h'):∀ b,WS μ N env b->b∈μ.hid:=by
 intro b hb
 rcases hb with q | rfl | ⟨x,_,hl⟩
 ·exact G.foot b (WC.foot q)
 ·exact F.hidL
 ·exact (F.cells (x,b) (bG hl)).1
theorem bi {N:aF} {env:Env} {μ μ':Mu} {n:Nat} (x:Ext μ μ' n) (hz:μ'.fz=μ.fz):∀ b,WS μ' N env b->WS μ N env b\/n<=b:=by
 intro b hb
 rcases hb with q | q
 ·exact (WC.ext x hz q).imp .inl id
 ·exact .inl (.inr q)
noncomputable def bq (N:aF) (ρ:aO) (x:Str) (a:AV):Prop:=∀ P:aF->aO->Prop,(∀ k N ρ,P ((x,k) :: N) (some a :: ρ))->(∀ p N o ρ,P N ρ->P (p :: N) (o :: ρ))->P N ρ
noncomputable def bS (N:aF) (ρ:aO) (x:Str) (k:Ee) (a:AV) (ρ':aO):Prop:=∀ P:aF->aO->aO->Prop,(∀ N o ρ,P ((x,k) :: N) (o :: ρ) (some a :: ρ))->(∀ p N o ρ ρ',P N ρ ρ'->P (p :: N) (o :: ρ) (o :: ρ'))->P N ρ ρ'
section
variable {N:aF} {ρ ρ':aO} {x:Str} {a:AV} {k:Ee} {p p1 p2 p3 p4 p5:Str×Ee} {o o1 o2 o3 o4 o5:Option AV}
theorem bq.here:bq ((x,k) :: N) (some a :: ρ) x a:=fun zz h zz=>h _ _ _
theorem bq.there (l:bq N ρ x a):bq (p :: N) (o :: ρ) x a:=fun P h t=>t _ _ _ _ (l P h t)
theorem ld1:bq (p :: (x,k) :: N) (o :: some a :: ρ) x a:=.there .here
theorem ld2:bq (p :: p1 :: (x,k) :: N) (o :: o1 :: some a :: ρ) x a:=.there ld1
theorem ld3:bq (p :: p1 :: p2 :: (x,k) :: N) (o :: o1 :: o2 :: some a :: ρ) x a:=.there ld2
theorem ld4:bq (p :: p1 :: p2 :: p3 :: (x,k) :: N) (o :: o1 :: o2 :: o3 :: some a :: ρ) x a:=.there ld3
theorem ld5:bq (p :: p1 :: p2 :: p3 :: p4 :: (x,k) :: N) (o :: o1 :: o2 :: o3 :: o4 :: some a :: ρ) x a:=.there ld4
theorem ld6:bq (p :: p1 :: p2 :: p3 :: p4 :: p5 :: (x,k) :: N) (o :: o1 :: o2 :: o3 :: o4 :: o5 :: some a :: ρ) x a:=.there ld5
theorem bS.here:bS ((x,k) :: N) (o :: ρ) x k a (some a :: ρ):=fun zz h zz=>h _ _ _
theorem bS.there (l:bS N ρ x k a ρ'):bS (p :: N) (o :: ρ) x k a (o :: ρ'):=fun P h t=>t _ _ _ _ _ (l P h t)
theorem sa1:bS (p1 :: (x,k) :: N) (o1 :: o :: ρ) x k a (o1 :: some a :: ρ):=.there .here
theorem sa2:bS (p1 :: p2 :: (x,k) :: N) (o1 :: o2 :: o :: ρ) x k a (o1 :: o2 :: some a :: ρ):=.there sa1
theorem sa3:bS (p1 :: p2 :: p3 :: (x,k) :: N) (o1 :: o2 :: o3 :: o :: ρ) x k a (o1 :: o2 :: o3 :: some a :: ρ):=.there sa2
theorem sa4:bS (p1 :: p2 :: p3 :: p4 :: (x,k) :: N) (o1 :: o2 :: o3 :: o4 :: o :: ρ) x k a (o1 :: o2 :: o3 :: o4 :: some a :: ρ):=.there sa3
theorem sa5:bS (p1 :: p2 :: p3 :: p4 :: p5 :: (x,k) :: N) (o1 :: o2 :: o3 :: o4 :: o5 :: o :: ρ) x k a (o1 :: o2 :: o3 :: o4 :: o5 :: some a :: ρ):=.there sa4
theorem bS.mem (h:bS N ρ x k a ρ'):(x,k)∈N:=h (fun N zz zz=>(x,k)∈N) (fun zz zz zz=>.head _) fun zz zz zz zz zz h=>.tail _ h
theorem bq.mem (h:bq N ρ x a):∃ k,(x,k)∈N:=h (fun N zz=>∃ k,(x,k)∈N) (fun k zz zz=>⟨k,.head _⟩) fun zz zz zz zz h=>h.imp fun zz h=>.tail _ h
end
section
variable {env:Env} {m m':Str->Option Value} {μ μ':Mu} {h h':Heap}
theorem bq.var {N:aF} {ρ:aO} {x:Str} {a:AV} (l:bq N ρ x a):fE env m μ h N ρ->du env m μ h x a:=
 l (fun N ρ=>fE env m μ h N ρ->du env m μ h x a) (fun zz zz zz v=>v.1) fun p N o ρ ih v=>by
  cases o with
  | none=>exact ih v
  | some b=>exact ih v.2
theorem fE.map:∀ {N:aF} {ρ:aO},(∀ p∈N,∀ a,du env m μ h p.1 a->du env m' μ' h' p.1 a)->fE env m μ h N ρ->fE env m' μ' h' N ρ:=by
 intro N
 induction N with
 | nil=>
  intro ρ _ v
  cases ρ with
  | nil=>trivial
  | cons _ _=>exact v
 | cons p N ih=>
  intro ρ f v
  cases ρ with
  | nil=>trivial
  | cons o ρ=>cases o with
   | none=>exact ih (fun p hp=>f p (.tail _ hp)) v
   | some a=>exact ⟨f p (.head _) _ v.1,ih (fun p hp=>f p (.tail _ hp)) v.2⟩
theorem bS.vars {N:aF} {ρ ρ':aO} {x:Str} {k:Ee} {a:AV} (l:bS N ρ x k a ρ') (nd:(N.map (·.1)).Nodup) (hx:du env m' μ' h' x a) (ho:∀ y b,y≠x->(∃ k,(y,k)∈N)->du env m μ h y b->du env m' μ' h' y b)
  (v:fE env m μ h N ρ):fE env m' μ' h' N ρ':=by
 refine (l (fun N ρ ρ'=>(x,k)∈N/\((N.map (·.1)).Nodup->(∀ y b,y≠x->(∃ k,(y,k)∈N)->du env m μ h y b->du env m' μ' h' y b)->fE env m μ h N ρ->fE env m' μ' h' N ρ')) (fun N o ρ=>⟨.head _,fun nd ho v=>?_⟩) fun p N o ρ ρ' ih=>⟨.tail _ ih.1,fun nd ho v=>?_⟩).2 nd ho v<;>rw [E9,GI] at nd
 ·have' r:fE env m μ h N ρ:=by cases o with
   | none=>exact v
   | some b=>exact v.2
  exact ⟨hx,r.map fun p hp a w=>ho _ a (fun e=>nd.1 (e▸EO.mpr ⟨p,hp,rfl⟩)) ⟨p.2,.tail _ hp⟩ w⟩
 ·have ho':∀ y b,y≠x->(∃ k,(y,k)∈N)->du env m μ h y b->du env m' μ' h' y b:=fun y b ne hk=>ho y b ne (hk.imp fun zz h=>.tail _ h)
  cases o with
  | none=>exact ih.2 nd.2 ho' v
  | some b=>exact ⟨ho _ b (fun e=>nd.1 (e▸EO.mpr ⟨(x,k),ih.1,rfl⟩)) ⟨p.2,.head _⟩ v.1,ih.2 nd.2 ho' v.2⟩
end
noncomputable def Sub (ρ ρ':aO):Prop:=∀ P:aO->aO->Prop,(∀ ρ,P ρ [])->(∀ o ρ ρ',P ρ ρ'->P (o :: ρ) (o :: ρ'))->(∀ o ρ ρ',P ρ ρ'->P (o :: ρ) (none :: ρ'))->P ρ ρ'
theorem Sub.nil {ρ:aO}:Sub ρ []:=fun zz h zz zz=>h _
theorem Sub.same {o:Option AV} {ρ ρ':aO} (s:Sub ρ ρ'):Sub (o :: ρ) (o :: ρ'):=fun P a b c=>b _ _ _ (s P a b c)
theorem Sub.drop {o:Option AV} {ρ ρ':aO} (s:Sub ρ ρ'):Sub (o :: ρ) (none :: ρ'):=fun P a b c=>c _ _ _ (s P a b c)
theorem Sub.refl {ρ:aO}:Sub ρ ρ:=by
 induction ρ with
 | nil=>exact .nil
 | cons _ _ ih=>exact .same ih
theorem Sub.vars {env:Env} {m:Str->Option Value} {μ:Mu} {h:Heap} {ρ ρ':aO} (s:Sub ρ ρ'):∀ {N:aF},fE env m μ h N ρ->fE env m μ h N ρ':=by
 refine s (fun ρ ρ'=>∀ {N:aF},fE env m μ h N ρ->fE env m μ h N ρ') (fun zz N zz=>by cases N<;>trivial) (fun o ρ ρ' ih N v=>?_) fun o ρ ρ' ih N v=>?_
 ·cases N with
  | nil=>exact v
  | cons p N=>cases o with
   | none=>exact ih v
   | some b=>exact ⟨v.1,ih v.2⟩
 ·cases N with
  | nil=>exact v.elim
  | cons p N=>cases o with
   | none=>exact ih v
   | some b=>exact ih v.2
section
variable {C:Cx} {lv:Lv} {A:Around} {N:aF} {env:Env} {μ μ':Mu} {σ σ':aC} {ρ ρ':aO} {s s':Shared}
theorem du.mono {m:Str->Option Value} {x:Str} {a:AV} {W:Addr->Prop} (e:Ext μ μ' s.heap.objs.size) (k:aL A W s s') (hW:∀ b,W b\/FA A b->b∈μ.hid\/s.heap.objs.size<=b) (hc:∀ c,env.cells.lookup x=some c->∀ o,s.heap.get? c=some o->∃ o',s'.heap.get? c=some o'/\o'.data=o.data)
  (h:du env m μ s.heap x a):du env m μ' s'.heap x a:=by
 obtain ⟨v,r,q⟩:=h
 refine ⟨v,af.mono e k hW r,q.imp id fun ⟨k1,c,hl,o,ho,hd⟩=>let ⟨o',ho',e'⟩:=hc c hl o ho;⟨k1,c,hl,o',ho',e'.trans hd⟩⟩
theorem aM.sub (F:aM A N env μ ρ s.heap) (h:Sub ρ ρ'):aM A N env μ ρ' s.heap:=
 let ⟨m,hn,v⟩:=F.vals;⟨F.fn,F.glob,F.blt,F.nodup,F.plain,F.kinds,F.hidL,F.freeL,F.cellsIn,F.cells,F.apart,F.fe,m,hn,h.vars v⟩
theorem aM.ext {A1:Around} {W:Addr->Prop} (F:aM A N env μ ρ s.heap) (x:Ext μ μ' s.heap.objs.size) (k:aL A1 W s s') (hW:∀ b,W b\/FA A1 b->b∈μ.hid\/s.heap.objs.size<=b) (hL:¬ W env.locals) (hC:∀ p∈env.cells,¬ W p.2):aM A N env μ' ρ s'.heap:=by
 obtain ⟨m,hn,hv⟩:=F.vals
 have hf:∀ b,b<s.heap.objs.size->b∉μ.foot->b∉μ'.foot:=fun b hb h1 h2=>(x.foot b h2).elim h1 fun q=>absurd hb (E3.mpr q)
 exact ⟨F.fn,F.glob,F.blt,F.nodup,F.plain,F.kinds,x.sub _ F.hidL,hf _ hn.lt F.freeL,F.cellsIn,fun p hp=>let ⟨a,b,c,v,o,ho,d⟩:=F.cells p hp;let ⟨o',ho',d'⟩:=k.like (hC p hp) ho;⟨x.sub _ a,hf _ (Ed ho) b,c,v,o',ho',d'.trans d⟩,F.apart,F.fe,m,
  let ⟨o,es,ep,e,d,r⟩:=hn;let ⟨o',e',d'⟩:=k.like hL e;⟨o',es,ep,e',d'.trans d,r⟩,hv.map fun p zz a h=>h.mono x k hW fun c hc o e=>k.like (hC (p.1,c) (bG hc)) e⟩
structure aS (C:Cx) (lv:Lv) (A:Around) (N:aF) (env:Env) (μ:Mu) (s:Shared) (ρ:aO) (σ:aC) (μ':Mu) (s':Shared):Prop where
 fz0:μ.fz=lv.fz
 good:aX C lv A μ' σ s'
 fr:aM A N env μ' ρ s'.heap
 ext:Ext μ μ' s.heap.objs.size
 kept:aL A (WS μ N env) s s'
theorem aS.refl (G:aX C lv A μ σ s) (F:aM A N env μ ρ s.heap):aS C lv A N env μ s ρ σ μ s:=⟨G.frz,G,F,Ext.refl _ _,aL.refl _ _ _⟩
theorem aS.trans {μ₁ μ₂:Mu} {s₁ s₂:Shared} {ρ₁ ρ₂:aO} {σ₁ σ₂:aC} (x:aS C lv A N env μ s ρ₁ σ₁ μ₁ s₁) (y:aS C lv A N env μ₁ s₁ ρ₂ σ₂ μ₂ s₂):aS C lv A N env μ s ρ₂ σ₂ μ₂ s₂:=
 ⟨x.fz0,y.good,y.fr,x.ext.trans y.ext x.kept.le,x.kept.trans y.kept (bi x.ext (x.good.frz.trans x.fz0.symm))⟩
theorem aS.sub (x:aS C lv A N env μ s ρ σ μ' s') (h:Sub ρ ρ'):aS C lv A N env μ s ρ' σ μ' s':=⟨x.fz0,x.good,x.fr.sub h,x.ext,x.kept⟩
theorem aS.val {v:Value} {a:AV} (G:aX C lv A μ σ s) (F:aM A N env μ ρ s.heap) (x:aS C lv A N env μ s ρ' σ' μ' s') (h:af μ s.heap a v):af μ' s'.heap a v:=
 af.mono x.ext x.kept (G.fw fun b hb=>.inl (dC G.sim F b hb)) h
theorem Sim.grow {s s':Shared} (S:Sim C μ σ s.heap) (k:aL A0 NoW s s'):Sim C μ σ s'.heap:=
 ⟨S.len,fun i p o hp ho=>(S.rep i p o hp ho).mono (Ext.refl μ _) k noW fun b zz o e=>k.up b o e,S.foot,S.apart,S.self⟩
theorem Frs.mono {W:Addr->Prop} (f:Frs A μ s.heap) (x:Ext μ μ' s.heap.objs.size) (k:aL A W s s') (hl:∀ b∈μ.hid,b<s.heap.objs.size) (hW:∀ b,FA A b->W b->∃ o es n,s'.heap.get? b=some o/\o.data=.dict es n):Frs A μ' s'.heap:=by
 obtain ⟨l,e,H⟩:=f.all
 refine ⟨l,e,fun env hm=>?_⟩
 obtain ⟨a,L,hL,h1,h2,o,es,n,ho,hd⟩:=H env hm
 refine ⟨a,L,hL,x.sub _ h1,fun q=>(x.foot _ q).elim h2 fun z=>absurd (hl _ h1) (E3.mpr z),?_⟩
 by_cases hw:W L
 ·exact hW L ⟨l,e,env,hm,hL⟩ hw
 ·obtain ⟨o',ho',hd'⟩:=k.like hw ho
  exact ⟨o',es,n,ho',hd'.trans hd⟩
theorem Frs.up {n:Nat} (f:Frs A μ s.heap) (x:Ext μ μ' s.heap.objs.size) (k:aL A0 NoW s s') (hl:∀ b∈μ.hid,b<s.heap.objs.size):Frs A μ' s'.heap:=f.mono x (k.lift (W:=NoW)) hl fun zz zz h=>h.elim
theorem aX.grow (G:aX C lv A μ σ s) (k:aL A0 NoW s s'):aX C lv A μ σ s':=
 ⟨G.quiet,G.frz,G.room,G.units,EH G.top k.le,fun b o e=>k.up b o (G.base b o e),G.low,fun b hb=>E8 (G.lt b hb) k.le,G.sim.grow k,G.frs.up (n:=0) (Ext.refl _ _) k G.lt⟩
theorem aM.grow (F:aM A N env μ ρ s.heap) (k:aL A0 NoW s s'):aM A N env μ ρ s'.heap:=F.ext (Ext.refl _ _) k noW id fun zz zz hb=>hb
theorem aS.grow (G:aX C lv A μ σ s) (F:aM A N env μ ρ s.heap) (k:aL A0 NoW s s'):aS C lv A N env μ s ρ σ μ s':=
 ⟨G.frz,G.grow k,F.grow k,Ext.refl _ _,k.lift⟩
theorem ab {h':Heap} {tk:Nat} (l:s.heap.objs.size<=h'.objs.size) (k:∀ b o,s.heap.get? b=some o->h'.get? b=some o):aL A0 NoW s {s with heap:=h',toks:=tk}:=⟨h',s.gens,tk,rfl,⟨l,id⟩,fun b o zz e=>.inl (k b o e)⟩
theorem bD (o:Obj) (tk:Nat):aL A0 NoW s {s with heap:=s.heap.push o,toks:=tk}:=ab (by rw [EU];exact Ej _) fun zz zz e=>EM _ e
theorem ae (tk:Nat):aL A0 NoW s {s with toks:=tk}:=ab (EK _) fun zz zz e=>e
theorem aX.inK (ok:C.Ok) (G:aX C lv A μ σ s):C.K.In s.heap:=fun a o e=>G.base _ _ (ok.K a o e)
theorem lY {p q:Addr×List Addr} {i j:Nat} {l:List (Addr×List Addr)} (h:l.Pairwise fun p q=>∀ b∈p.2,b∉q.2) (hi:l[i]? = some p) (hj:l[j]? = some q) (ne:i≠j):∀ b∈p.2,b∉q.2:=by
 obtain ⟨li,ei⟩:=EL.mp hi
 obtain ⟨lj,ej⟩:=EL.mp hj
 rcases Nat.lt_or_gt_of_ne ne with q | q
 ·have:=Jc.mp h i j li lj q
  rw [ei,ej] at this;exact this
 ·have:=Jc.mp h j i lj li q
  rw [ei,ej] at this;exact fun b hb hb'=>this b hb' hb
theorem aX.turn {W:Addr->Prop} (G:aX C lv A μ σ s) (k:aL A W s s') (h1:∀ b,W b->b∈μ.hid) (h2:∀ b,W b->b∉μ.foot) (h3:∀ b,FA A b->W b->∃ o es n,s'.heap.get? b=some o/\o.data=.dict es n):aX C lv A μ σ s':=
 ⟨G.quiet,G.frz,G.room,G.units,EH G.top k.le,fun b o e=>k.at (fun hb=>by rw [G.low b (h1 b hb)] at e;cases e) (G.notFA0 e) (G.base b o e),G.low,fun b hb=>E8 (G.lt b hb) k.le,
  ⟨G.sim.len,fun i p o hp ho=>(G.sim.rep i p o hp ho).mono (Ext.refl _ _) k (G.fw fun b hb=>.inl (h1 b hb)) fun b hb o e=>k.at (fun hw=>h2 b hw (aj (EN hp) hb)) (G.notFA (aj (EN hp) hb)) e,G.sim.foot,G.sim.apart,G.sim.self⟩,G.frs.mono (Ext.refl _ _) k G.lt h3⟩
theorem WS.of_foot {i:Nat} {p:Addr×List Addr} {b:Addr} (hp:μ.objs[i]? = some p) (hi:i∉μ.fz) (hb:b∈p.2):WS μ N env b:=.inl ⟨i,p,hp,hi,hb⟩
theorem aX.write {i:Nat} {p:Addr×List Addr} {o':AO} (G:aX C lv A μ σ s) (hp:μ.objs[i]? = some p) (k:aL A (·∈p.2) s s') (h:ek C μ s'.heap p o'):aX C lv A μ (σ.set i o') s':=by
 have hmem:p∈μ.objs:=EN hp
 have' hW:∀ b,b∈p.2\/FA A b->b∈μ.hid\/s.heap.objs.size<=b:=G.fw fun b hb=>.inl (G.sim.foot b (aj hmem hb))
 have hlen:i<σ.length:=by rw [<- G.sim.len];exact (EL.mp hp).1
 refine ⟨G.quiet,G.frz,G.room,G.units,EH G.top k.le,fun b o e=>k.at (fun hb=>?_) (G.notFA0 e) (G.base b o e),G.low,fun b hb=>E8 (G.lt b hb) k.le,?_,G.frs.mono (Ext.refl _ _) k G.lt fun b hf hb=>absurd hf (G.notFA (aj hmem hb))⟩
 ·rw [G.low b (G.sim.foot b (aj hmem hb))] at e;cases e
 ·refine ⟨by rw [Hh];exact G.sim.len,fun j q o hq ho=>?_,G.sim.foot,G.sim.apart,G.sim.self⟩
  by_cases hij:i=j
  ·subst hij
   rw [hp] at hq;cases hq
   rw [F9 hlen] at ho;cases ho
   exact h
  ·rw [Fm hij] at ho
   exact (G.sim.rep j q o hq ho).mono (Ext.refl _ _) k hW fun b hb o e=>k.at (fun hb'=>lY G.sim.apart hp hq hij b hb' hb) (G.notFA (aj (EN hq) hb)) e
theorem aS.write {i:Nat} {p:Addr×List Addr} {o':AO} (G:aX C lv A μ σ s) (F:aM A N env μ ρ s.heap) (hp:μ.objs[i]? = some p) (hz:i∉lv.fz) (k:aL A (·∈p.2) s s') (h:ek C μ s'.heap p o') :
  aS C lv A N env μ s ρ (σ.set i o') μ s':=by
 have hmem:p∈μ.objs:=EN hp
 exact ⟨G.frz,G.write hp k h,F.ext (Ext.refl _ _) k (G.fw fun b hb=>.inl (G.sim.foot b (aj hmem hb))) (fun hb=>F.freeL (aj hmem hb)) (fun q hq hb=>(F.cells q hq).2.1 (aj hmem hb)),Ext.refl _ _,
  k.mono fun b hb=>.inl (WS.of_foot hp (G.frz▸hz) hb)⟩
noncomputable def Mu.hide (μ:Mu) (l:List Addr):Mu:={μ with hid:=l++μ.hid}
noncomputable def Mu.add (μ:Mu) (a:Addr) (fp:List Addr):Mu:={μ with hid:=fp++μ.hid,objs:=μ.objs++[(a,fp)]}
theorem fW {l:List Addr} {n:Nat} (hl:∀ b∈l,n<=b):Ext μ (μ.hide l) n:=⟨⟨[],by simp [Mu.hide],jI⟩,fun zz h=>EG.mpr (.inr h),fun c h=>by
  rcases EG.mp h with h | h
  ·exact .inr (hl c h)
  ·exact .inl h⟩
theorem aX.hide {l:List Addr} (G:aX C lv A μ σ s) (k:aL A0 NoW s s') (hb:∀ b∈l,s.heap.objs.size<=b/\b<s'.heap.objs.size):aX C lv A (μ.hide l) σ s':=by
 have x:Ext μ (μ.hide l) s.heap.objs.size:=fW fun b h=>(hb b h).1
 refine ⟨G.quiet,G.frz,G.room,G.units,EH G.top k.le,fun b o e=>k.up b o (G.base b o e),fun c h=>?_,fun c h=>?_,⟨G.sim.len,fun i p o hp ho=>(G.sim.rep i p o hp ho).mono x k noW fun b zz o e=>k.up b o e,fun c h=>EG.mpr (.inr (G.sim.foot c h)),G.sim.apart,G.sim.self⟩,G.frs.up (n:=0) x k G.lt⟩
 ·rcases EG.mp h with h | h
  ·exact HM (EH G.top (hb c h).1)
  ·exact G.low c h
 ·rcases EG.mp h with h | h
  ·exact (hb c h).2
  ·exact E8 (G.lt c h) k.le
theorem aX.alloc {a:Addr} {fp:List Addr} {o:AO} (G:aX C lv A μ σ s) (k:aL A0 NoW s s') (hfp:∀ b∈fp,s.heap.objs.size<=b/\b<s'.heap.objs.size) (ha:a∈fp)
  (h:ek C (μ.add a fp) s'.heap (a,fp) o):aX C lv A (μ.add a fp) (σ++[o]) s'/\Ext μ (μ.add a fp) s.heap.objs.size:=by
 have' hfoot:∀ b,b∈Mu.foot (μ.add a fp)↔b∈μ.foot\/b∈fp:=fun b=>by simp [Mu.foot,Mu.add]
 have x:Ext μ (μ.add a fp) s.heap.objs.size:=⟨⟨_,rfl,fun p hp b hb=>by rw [EJ.mp hp] at hb;exact (hfp b hb).1⟩,fun zz h=>EG.mpr (.inr h),fun b h=>by
  rcases EG.mp h with q | q
  ·exact .inr (hfp b q).1
  ·exact .inl q⟩
 refine ⟨⟨G.quiet,G.frz,G.room,G.units,EH G.top k.le,fun b o e=>k.up b o (G.base b o e),fun b hb=>?_,fun b hb=>?_,⟨by simp [G.sim.len,Mu.add],fun i p o' hp ho=>?_,fun b hb=>?_,?_,fun p hp=>?_⟩,G.frs.up (n:=0) x k G.lt⟩,x⟩
 ·rcases EG.mp hb with q | q
  ·exact HM (EH G.top (hfp b q).1)
  ·exact G.low b q
 ·rcases EG.mp hb with q | q
  ·exact (hfp b q).2
  ·exact E8 (G.lt b q) k.le
 ·have hp':(μ.objs++[(a,fp)])[i]? = some p:=hp
  by_cases hi:i<σ.length
  ·have hi':i<μ.objs.length:=by rw [G.sim.len];exact hi
   rw [Eg hi] at ho
   rw [Eg hi'] at hp'
   exact (G.sim.rep i p o' hp' ho).mono x k noW fun b zz o e=>k.up b o e
  ·have' e1:i=σ.length:=by
    have:=(EL.mp ho).1
    simp at this;omega
   subst e1
   rw [<- G.sim.len,EY] at hp'
   rw [EY] at ho
   cases ho;cases hp'
   exact h
 ·rcases (hfoot b).mp hb with q | q
  ·exact EG.mpr (.inr (G.sim.foot b q))
  ·exact EG.mpr (.inl q)
 ·refine Hp.mpr ⟨G.sim.apart,Gu _ _,fun p hp q hq b hb hb'=>?_⟩
  rw [EJ.mp hq] at hb'
  have l1:=ltA (G.lt b (G.sim.foot b (aj hp hb)));have l2:=leA (hfp b hb').1
  omega
 ·rcases EG.mp hp with q | q
  ·exact G.sim.self p q
  ·rw [EJ.mp q];exact ha
theorem aS.alloc {a:Addr} {fp:List Addr} {o:AO} (G:aX C lv A μ σ s) (F:aM A N env μ ρ s.heap) (k:aL A0 NoW s s') (hfp:∀ b∈fp,s.heap.objs.size<=b/\b<s'.heap.objs.size) (ha:a∈fp)
  (h:ek C (μ.add a fp) s'.heap (a,fp) o):aS C lv A N env μ s ρ (σ++[o]) (μ.add a fp) s':=
 let ⟨g,x⟩:=G.alloc k hfp ha h
 ⟨G.frz,g,F.ext x k noW id (fun zz zz hb=>hb),x,k.lift⟩
theorem gD {A':Around} {x:Str} {k:Ee} {a:AV} {v:Value} {Q:Unit->Shared->Prop} {E:Value->Shared->Prop} (G:aX C lv A μ σ s) (F:aM A N env μ ρ s.heap) (l:bS N ρ x k a ρ') (hk:k=.local\/k=.cell) (r:af μ s.heap a v)
  (h:∀ s',aS C lv A N env μ s ρ' σ μ s'->Q () s'):wpAny (model C.prog C.w) A' (La env x v) Q E s:=by
 obtain ⟨m,hnm,hv⟩:=F.vals
 rcases hk with rfl | rfl
 ·have hkx:env.kindOf x=some .local:=(F.kinds _ l.mem).elim id fun e=>nc Ee.ctorIdx e.1 rfl
  refine wpAny_storeName_local hkx hnm (fun h' hn hs=>h _ ?_) (by rw [F.fn];rfl)
  have k:aL A (· = env.locals) s {s with heap:=h',toks:=s.toks+1}:=⟨h',_,_,rfl,⟨Ec hs.1.symm,id⟩,fun b o hb e=>.inl ((hs.2 b hb).trans e)⟩
  have hW:∀ b,b=env.locals\/FA A b->b∈μ.hid\/s.heap.objs.size<=b:=G.fw fun b hb=>hb▸.inl F.hidL
  have cel:∀ p∈env.cells,¬ p.2=env.locals:=fun p hp q=>(F.cells p hp).2.2.1 q
  refine ⟨G.frz,G.turn k (fun b hb=>hb▸F.hidL) (fun b hb=>hb▸F.freeL) (fun b zz hb=>by subst hb;exact let ⟨o,es,ep,e,d,_⟩:=hn;⟨o,es,ep,e,d⟩),?_,Ext.refl _ _,k.mono fun b hb=>.inl (.inr (.inl hb))⟩
  refine ⟨F.fn,F.glob,F.blt,F.nodup,F.plain,F.kinds,F.hidL,F.freeL,F.cellsIn,fun p hp=>let ⟨a,b,c,v,o,ho,d⟩:=F.cells p hp;let ⟨o',ho',d'⟩:=k.like (cel p hp) ho;⟨a,b,c,v,o',ho',d'.trans d⟩,F.apart,F.fe,_,hn,l.vars F.nodup ⟨v,r.mono (Ext.refl _ _) k hW,.inl ⟨hkx,by simp⟩⟩ (fun y b ne zz w=>?_) hv⟩
  obtain ⟨u,ru,q⟩:=w;exact ⟨u,ru.mono (Ext.refl _ _) k hW,q.imp (fun ⟨h1,h2⟩=>⟨h1,by simp [ne,h2]⟩) fun ⟨h1,c,h2,o,ho,hd⟩=>let ⟨o',ho',d'⟩:=k.like (cel (y,c) (bG h2)) ho;⟨h1,c,h2,o',ho',d'.trans hd⟩⟩
 ·have hkx:env.kindOf x=some .cell:=(F.kinds _ l.mem).elim id fun e=>nc Ee.ctorIdx e.1 rfl
  obtain ⟨c,hc⟩:=F.cellsIn _ l.mem (.inl rfl);obtain ⟨c1,c2,c3,v0,hv0⟩:=F.cells (x,c) (bG hc);refine wpAny_storeName_cell F.fn hkx hc hv0 fun h' hn hs=>h _ ?_
  dsimp only at c1 c2 c3
  have k:aL A (· = c) s {s with heap:=h'}:=⟨h',_,_,rfl,⟨Ec hs.1.symm,id⟩,fun b o hb e=>.inl ((hs.2 b hb).trans e)⟩
  have hW:∀ b,b=c\/FA A b->b∈μ.hid\/s.heap.objs.size<=b:=G.fw fun b hb=>hb▸.inl c1
  refine ⟨G.frz,G.turn k (fun b hb=>hb▸c1) (fun b hb=>hb▸c2) (fun b hf hb=>by subst hb;exact let ⟨_,_,o,es,n,e,d⟩:=G.frs.fa hf;let ⟨o',e',d'⟩:=hv0;by rw [e] at e';cases e';rw [d] at d';cases d'),?_,Ext.refl _ _,k.mono fun b hb=>.inl (.inr (.inr ⟨x,l.mem,hb▸hc⟩))⟩
  refine ⟨F.fn,F.glob,F.blt,F.nodup,F.plain,F.kinds,F.hidL,F.freeL,F.cellsIn,fun p hp=>?_,F.apart,F.fe,m,let ⟨o,es,ep,e,d,r⟩:=hnm;let ⟨o',e',d'⟩:=k.like (fun q=>c3 q.symm) e;⟨o',es,ep,e',d'.trans d,r⟩,l.vars F.nodup ⟨v,r.mono (Ext.refl _ _) k hW,.inr ⟨.inl hkx,c,hc,hn⟩⟩ (fun y b ne zz w=>?_) hv⟩
  ·obtain ⟨a,b,d,v',o,ho,e⟩:=F.cells p hp
   by_cases hpc:p.2=c
   ·exact ⟨a,b,d,some v,hpc▸hn⟩
   ·exact let ⟨o',ho',e'⟩:=k.like hpc ho;⟨a,b,d,v',o',ho',e'.trans e⟩
  ·obtain ⟨u,ru,q⟩:=w
   refine ⟨u,ru.mono (Ext.refl _ _) k hW,q.imp id fun ⟨h1,d,h2,o,ho,hd⟩=>let ⟨o',ho',e'⟩:=k.like (fun q=>ne ?_) ho;⟨h1,d,h2,o',ho',e'.trans hd⟩⟩
   exact F.apart (y,d) (bG h2) (x,c) (bG hc) q
end
inductive Out where
 | nxt
 | brk
 | cnt
 | ret (a:AV)
noncomputable def oP (μ:Mu) (h:Heap):Out->Flow->Prop
 | .nxt,f=>f=.next
 | .brk,f=>f=.brk
 | .cnt,f=>f=.cont
 | .ret a,f=>∃ v,f=.ret v/\af μ h a v
section
variable (C:Cx) (lv:Lv) (N:aF)
noncomputable def aG (e:Expr) (ρ:aO) (σ:aC) (a:AV) (ρ':aO) (σ':aC):Prop:=
 ∀ (A:Around) (env:Env) (μ:Mu) (s:Shared) (Q:Value->Shared->Prop) (E:Value->Shared->Prop),C.Ok->aX C lv A μ σ s->aM A N env μ ρ s.heap->
  (∀ v μ' s',aS C lv A N env μ s ρ' σ' μ' s'->af μ' s'.heap a v->Q v s')->wpAny (model C.prog C.w) A (eval e env) Q E s
noncomputable def aY (e:Expr) (ρ:aO) (σ:aC) (b:Bool) (ρ':aO) (σ':aC):Prop:=
 ∀ (A:Around) (env:Env) (μ:Mu) (s:Shared) (Q:Bool->Shared->Prop) (E:Value->Shared->Prop),C.Ok->aX C lv A μ σ s->aM A N env μ ρ s.heap->
  (∀ μ' s',aS C lv A N env μ s ρ' σ' μ' s'->Q b s')->wpAny (model C.prog C.w) A (isTrue e env (eval e env)) Q E s
noncomputable def jQ (es:List Expr) (ρ:aO) (σ:aC) (as:List AV) (ρ':aO) (σ':aC):Prop:=
 ∀ (A:Around) (env:Env) (μ:Mu) (s:Shared) (pos:Pos) (Q:List Value->Shared->Prop) (E:Value->Shared->Prop),C.Ok->aX C lv A μ σ s->aM A N env μ ρ s.heap->
  (∀ vs μ' s',aS C lv A N env μ s ρ' σ' μ' s'->ay μ' s'.heap as vs->Q vs s')->wpAny (model C.prog C.w) A (spliced (backTo pos (Fy es env))) Q E s
noncomputable def aq (st:Stmt) (ρ:aO) (σ:aC) (o:Out) (ρ':aO) (σ':aC):Prop:=
 ∀ (A:Around) (env:Env) (μ:Mu) (s:Shared) (Q:Flow->Shared->Prop) (E:Value->Shared->Prop),C.Ok->aX C lv A μ σ s->aM A N env μ ρ s.heap->
  (∀ f μ' s',aS C lv A N env μ s ρ' σ' μ' s'->oP μ' s'.heap o f->Q f s')->wpAny (model C.prog C.w) A (exec st env) Q E s
noncomputable def aw (b:List Stmt) (ρ:aO) (σ:aC) (o:Out) (ρ':aO) (σ':aC):Prop:=
 ∀ (A:Around) (env:Env) (μ:Mu) (s:Shared) (Q:Flow->Shared->Prop) (E:Value->Shared->Prop),C.Ok->aX C lv A μ σ s->aM A N env μ ρ s.heap->
  (∀ f μ' s',aS C lv A N env μ s ρ' σ' μ' s'->oP μ' s'.heap o f->Q f s')->wpAny (model C.prog C.w) A (execs b env) Q E s
end
structure Op2 (C:Cx) (a b d:PyData) (t:Value->Value->Sem Value):Prop where
 run:∀ (A:Around) (hot:List Addr) (u v:Value) (s:Shared) (as bs:List Addr) (Q:Value->Shared->Prop) (E:Value->Shared->Prop),A.units+200<cLine->Reads (cL hot s.heap) u a as->Reads (cL hot s.heap) v b bs->(∀ a∈hot,a<s.heap.objs.size)->
  (∀ x s' cs,aL A0 NoW s s'->Reads (cL hot s'.heap) x d cs->Q x s')->wpAny (model C.prog C.w) A (t u v) Q E s
structure OpG (C:Cx) (lv:Lv) (σ:aC) (a b:AV) (d:PyData) (t:Value->Value->Sem Value):Prop where
 run:∀ (A:Around) (μ:Mu) (u v:Value) (s:Shared) (Q:Value->Shared->Prop) (E:Value->Shared->Prop),C.Ok->aX C lv A μ σ s->af μ s.heap a u->af μ s.heap b v->
  (∀ x s' cs,aL A0 NoW s s'->Reads (cL μ.hid s'.heap) x d cs->Q x s')->wpAny (model C.prog C.w) A (t u v) Q E s
noncomputable def Tru (C:Cx) (d:PyData) (b:Bool):Prop:=
 ∀ (A:Around) (hot:List Addr) (u:Value) (s:Shared) (as:List Addr) (Q:Bool->Shared->Prop) (E:Value->Shared->Prop),Reads (cL hot s.heap) u d as->(∀ s',aL A0 NoW s s'->Q b s')->wpAny (model C.prog C.w) A (truthy u) Q E s
section
variable {C:Cx} {lv:Lv} {N:aF} {ρ ρ₁ ρ₂ ρ₃:aO} {σ σ₁ σ₂ σ₃:aC}
theorem cP {hot:List Addr} {h:Heap} {v:Value} {d:PyData} {as:List Addr} (r:Reads (cL hot h) v d as):Reads h v d as:=PyProof.Rows.Reads.keeps (fun zz zz e=>Ez hot e) r
theorem cU {hot:List Addr} {s s':Shared} (k:aL A0 NoW s s'):∀ b o,(cL hot s.heap).get? b=some o->(cL hot s'.heap).get? b=some o:=zN fun zz zz zz e=>k.up _ _ e
theorem aX.units' {A:Around} {μ:Mu} {σ:aC} {s:Shared} (G:aX C lv A μ σ s):A.units+200<cLine:=by have:=G.units;omega
theorem OpG.of2 {t:Value->Value->Sem Value} {a b d:PyData} (h:Op2 C a b d t):OpG C lv σ (.dat a) (.dat b) d t:=.mk fun A μ u v s Q E _ G ⟨as,ru⟩ ⟨bs,rv⟩ hQ=>h.run A μ.hid u v s as bs Q E G.units' ru rv G.lt hQ
theorem ec {x:Str} {pos:Pos} {a:AV} (l:bq N ρ x a):aG C lv N (.Name x pos) ρ σ a ρ σ:=by
 intro A env μ s Q E _ G F hQ
 obtain ⟨m,hn,hv⟩:=F.vals
 obtain ⟨k,hm⟩:=l.mem
 have hp:=F.plain _ hm
 obtain ⟨v,r,h⟩:=l.var hv
 rcases h with ⟨hk,hm⟩ | ⟨hk,c,hc,hi⟩
 ·exact wpAny_Name (wpAny_loadName_local F.fn hk hn hm (hQ v μ s (aS.refl G F) r)) hp.1
 ·rcases hk with hk | hk
  ·exact wpAny_Name (wpAny_loadName_cell F.fn hk hc hi (hQ v μ s (aS.refl G F) r)) hp.1
  ·exact wpAny_Name (wpAny_loadName_free F.fn hk hc hi (hQ v μ s (aS.refl G F) r) hp.2) hp.1
noncomputable def bx (N:aF) (x:Str):Prop:=∀ P:aF->Prop,(∀ N,P ((x,.globalImplicit) :: N))->(∀ p N,P N->P (p :: N))->P N
section
variable {x:Str} {p p1 p2 p3 p4 p5:Str×Ee}
theorem bx.here:bx ((x,.globalImplicit) :: N) x:=fun zz h zz=>h _
theorem bx.there (g:bx N x):bx (p :: N) x:=fun P h t=>t _ _ (g P h t)
theorem ga1:bx (p :: (x,.globalImplicit) :: N) x:=.there .here
theorem ga2:bx (p :: p1 :: (x,.globalImplicit) :: N) x:=.there ga1
theorem ga3:bx (p :: p1 :: p2 :: (x,.globalImplicit) :: N) x:=.there ga2
theorem ga4:bx (p :: p1 :: p2 :: p3 :: (x,.globalImplicit) :: N) x:=.there ga3
theorem ga5:bx (p :: p1 :: p2 :: p3 :: p4 :: (x,.globalImplicit) :: N) x:=.there ga4
theorem ga6:bx (p :: p1 :: p2 :: p3 :: p4 :: p5 :: (x,.globalImplicit) :: N) x:=.there ga5
theorem bx.mem (h:bx N x):(x,Ee.globalImplicit)∈N:=h (fun N=>(x,Ee.globalImplicit)∈N) (fun zz=>.head _) fun zz zz h=>.tail _ h
end
theorem aM.globKind {x:Str} {env:Env} {μ:Mu} {h:Heap} (F:aM A N env μ ρ h) (g:bx N x):env.kindOf x=some .globalImplicit:=(F.kinds _ g.mem).elim id fun e=>nc Ee.ctorIdx e.1 rfl
theorem xI {x:Str} {pos:Pos} {v:Value} (g:bx N x) (hv:C.mg x=some v):aG C lv N (.Name x pos) ρ σ (.con v) ρ σ:=by
 intro A env μ s Q E ok G F hQ
 have' hp:=F.plain _ g.mem
 exact Hq F.fn (F.globKind g) (Calls.loadGlobal_global (F.glob▸ok.g.keeps G.base) hv (hQ v μ s (aS.refl G F) rfl)) hp.1
theorem kK {x:Str} {pos:Pos} {v:Value} (g:bx N x) (hm:C.mg x=none) (hv:C.mb x=some v):aG C lv N (.Name x pos) ρ σ (.con v) ρ σ:=by
 intro A env μ s Q E ok G F hQ
 have' hp:=F.plain _ g.mem
 exact Hq F.fn (F.globKind g) (Jq (F.glob▸ok.g.keeps G.base) hm (F.blt▸ok.b.keeps G.base) hv (hQ v μ s (aS.refl G F) rfl)) hp.1
theorem jG {i:Int} {k:Nat} {pos:Pos}:aG C lv N (.Constant (.int i) k pos) ρ σ (.dat (.int i)) ρ σ:=fun zz zz zz zz zz zz zz G F hQ=>
 wpAny_Constant_int (hQ _ _ _ (aS.grow G F (ae _)) ⟨[],.int i _⟩)
theorem nt {x:Str} {k:Nat} {pos:Pos}:aG C lv N (.Constant (.str x) k pos) ρ σ (.dat (.str x)) ρ σ:=fun zz zz zz zz zz zz zz G F hQ=>
 Hc (hQ _ _ _ (aS.grow G F (ae _)) ⟨[],.str x _⟩)
theorem ix {k:Nat} {pos:Pos}:aG C lv N (.Constant .none k pos) ρ σ (.dat .none) ρ σ:=fun zz zz zz zz zz zz zz G F hQ=>
 Kq (hQ _ _ _ (aS.refl G F) ⟨[],.none⟩)
theorem fV {b:Bool} {k:Nat} {pos:Pos}:aG C lv N (.Constant (.bool b) k pos) ρ σ (.dat (.bool b)) ρ σ:=fun zz zz zz zz zz zz zz G F hQ=>
 wpAny_Constant_bool (hQ _ _ _ (aS.refl G F) ⟨[],.bool b⟩)
theorem cx {l r:Expr} {op:JY} {pos:Pos} {a b:AV} {d:PyData} (hl:aG C lv N l ρ σ a ρ₁ σ₁) (hr:aG C lv N r ρ₁ σ₁ b ρ₂ σ₂) (ho:OpG C lv σ₂ a b d (Iy op)) :
  aG C lv N (.BinOp l op r pos) ρ σ (.dat d) ρ₂ σ₂:=fun A env μ s zz zz ok G F hQ=>
 wpAny_BinOp (hl A env μ s _ _ ok G F fun u μ1 s1 P1 ru=>hr A env μ1 s1 _ _ ok P1.good P1.fr fun v μ2 s2 P2 rv=>
  ho.run A μ2 u v s2 _ _ ok P2.good (P2.val P1.good P1.fr ru) rv fun zz s3 cs k rx=>hQ _ μ2 s3 (P1.trans (P2.trans (aS.grow P2.good P2.fr k))) ⟨cs,rx⟩)
theorem nJ {l r:Expr} {op:CmpOp} {pos:Pos} {a b:AV} {d:PyData} (hl:aG C lv N l ρ σ a ρ₁ σ₁) (hr:aG C lv N r ρ₁ σ₁ b ρ₂ σ₂) (ho:OpG C lv σ₂ a b d (Ff op))
  (hm:autoParam (Kz op r=false) aU):aG C lv N (.Compare l [op] [r] pos) ρ σ (.dat d) ρ₂ σ₂:=fun A env μ s zz zz ok G F hQ=>
 wpAny_Compare1 (hl A env μ s _ _ ok G F fun u μ1 s1 P1 ru=>hr A env μ1 s1 _ _ ok P1.good P1.fr fun v μ2 s2 P2 rv=>
  ho.run A μ2 u v s2 _ _ ok P2.good (P2.val P1.good P1.fr ru) rv fun zz s3 cs k rx=>hQ _ μ2 s3 (P1.trans (P2.trans (aS.grow P2.good P2.fr k))) ⟨cs,rx⟩) hm
theorem ai {l r:Expr} {op:CmpOp} {pos:Pos} {a b:AV} {c:Bool} (hl:aG C lv N l ρ σ a ρ₁ σ₁) (hr:aG C lv N r ρ₁ σ₁ b ρ₂ σ₂) (ho:OpG C lv σ₂ a b (.bool c) (Ff op))
  (hm:autoParam (Kz op r=false) aU):aY C lv N (.Compare l [op] [r] pos) ρ σ c ρ₂ σ₂:=fun A env μ s zz zz ok G F hQ=>
 K0 (hl A env μ s _ _ ok G F fun u μ1 s1 P1 ru=>hr A env μ1 s1 _ _ ok P1.good P1.fr fun v μ2 s2 P2 rv=>
  ho.run A μ2 u v s2 _ _ ok P2.good (P2.val P1.good P1.fr ru) rv fun zz s3 zz k rx=>by
   cases rx using RB
   exact HN (hQ μ2 s3 (P1.trans (P2.trans (aS.grow P2.good P2.fr k))))) hm
theorem zW {x:Expr} {pos:Pos} {i:Int} (h:aG C lv N x ρ σ (.dat (.int i)) ρ₁ σ₁):aG C lv N (.UnaryOp .USub x pos) ρ σ (.dat (.int (-i))) ρ₁ σ₁:=fun A env μ s Q E ok G F hQ=>
 wpAny_UnaryOp (h A env μ s _ _ ok G F fun _ μ1 s1 P1 ⟨_,ru⟩=>by
  cases ru using RI
  exact neg_int (hQ _ μ1 _ (P1.trans (aS.grow P1.good P1.fr (ae _))) ⟨[],.int _ _⟩))
theorem bV {e:Expr} {d:PyData} {b:Bool} (h:aG C lv N e ρ σ (.dat d) ρ₁ σ₁) (ht:Tru C d b) (he:autoParam (∀ env,isTrue e env (eval e env)=(do let v <- eval e env;HT e.pos;Hx [v] (truthy v))) aI) :
  aY C lv N e ρ σ b ρ₁ σ₁:=fun A env μ s Q E ok G F hQ=>
 LV (h A env μ s _ _ ok G F fun _ μ1 s1 P1 ⟨_,ru⟩=>ht A μ1.hid _ s1 _ _ _ ru fun s2 k=>hQ μ1 s2 (P1.trans (aS.grow P1.good P1.fr k))) (he env)
theorem dS {x:Expr} {pos:Pos} {b:Bool} (h:aY C lv N x ρ σ b ρ₁ σ₁):aY C lv N (.UnaryOp .Not x pos) ρ σ (!b) ρ₁ σ₁:=fun A env μ s zz zz ok G F hQ=>wpAny_isTrue_Not (h A env μ s _ _ ok G F hQ)
theorem dF {x y:Expr} {pos:Pos} (h:aY C lv N x ρ σ false ρ₁ σ₁) {r:List Expr}:aY C lv N (.BoolOp .And (x :: y :: r) pos) ρ σ false ρ₁ σ₁:=fun A env μ s zz zz ok G F hQ=>
 HU (Hd (h A env μ s _ _ ok G F hQ))
theorem cD {x y:Expr} {pos:Pos} {b:Bool} (h:aY C lv N x ρ σ true ρ₁ σ₁) (h':aY C lv N y ρ₁ σ₁ b ρ₂ σ₂):aY C lv N (.BoolOp .And [x,y] pos) ρ σ b ρ₂ σ₂:=fun A env μ s zz zz ok G F hQ=>
 HU (Hd (h A env μ s _ _ ok G F fun μ1 s1 P1=>Hd (h' A env μ1 s1 _ _ ok P1.good P1.fr fun μ2 s2 P2=>by
  cases b with
  | false=>exact hQ μ2 s2 (P1.trans P2)
  | true=>exact wpAny_allTrue_And_nil (hQ μ2 s2 (P1.trans P2)))))
theorem so {x y:Expr} {pos:Pos} (h:aY C lv N x ρ σ true ρ₁ σ₁) {r:List Expr}:aY C lv N (.BoolOp .Or (x :: y :: r) pos) ρ σ true ρ₁ σ₁:=fun A env μ s zz zz ok G F hQ=>
 HU (Ig (h A env μ s _ _ ok G F hQ))
theorem fA {x y:Expr} {pos:Pos} {b:Bool} (h:aY C lv N x ρ σ false ρ₁ σ₁) (h':aY C lv N y ρ₁ σ₁ b ρ₂ σ₂):aY C lv N (.BoolOp .Or [x,y] pos) ρ σ b ρ₂ σ₂:=fun A env μ s zz zz ok G F hQ=>
 HU (Ig (h A env μ s _ _ ok G F fun μ1 s1 P1=>Ig (h' A env μ1 s1 _ _ ok P1.good P1.fr fun μ2 s2 P2=>by
  cases b with
  | true=>exact hQ μ2 s2 (P1.trans P2)
  | false=>exact wpAny_allTrue_Or_nil (hQ μ2 s2 (P1.trans P2)))))
theorem aY.of {e:Expr} {b b':Bool} (h:aY C lv N e ρ σ b ρ₁ σ₁) (e':b=b'):aY C lv N e ρ σ b' ρ₁ σ₁:=e'▸h
theorem aG.of {e:Expr} {a a':AV} (h:aG C lv N e ρ σ a ρ₁ σ₁) (e':a=a'):aG C lv N e ρ σ a' ρ₁ σ₁:=e'▸h
theorem ze {t x y:Expr} {pos:Pos} {a:AV} (h:aY C lv N t ρ σ true ρ₁ σ₁) (hx:aG C lv N x ρ₁ σ₁ a ρ₂ σ₂):aG C lv N (.IfExp t x y pos) ρ σ a ρ₂ σ₂:=fun A env μ s Q E ok G F hQ=>
 wpAny_IfExp (h A env μ s _ _ ok G F fun μ1 s1 P1=>hx A env μ1 s1 _ _ ok P1.good P1.fr fun v μ2 s2 P2 r=>hQ v μ2 s2 (P1.trans P2) r)
theorem bR:jQ C lv N [] ρ σ [] ρ σ:=fun zz zz zz zz zz zz zz zz G F hQ=>Fs (hQ [] _ _ (aS.refl G F) trivial)
noncomputable def cA (e:Expr):Bool:=!LM e.ctorIdx 22
theorem a7 {e:Expr} {es:List Expr} {env:Env} (h:cA e=true):Fy (e :: es) env=(false,eval e env) :: Fy es env:=by
 cases e<;>first | rfl | cases h
theorem bF {e:Expr} {es:List Expr} {a:AV} {as:List AV} (h:aG C lv N e ρ σ a ρ₁ σ₁) (hs:jQ C lv N es ρ₁ σ₁ as ρ₂ σ₂) (hn:autoParam (cA e=true) aR):jQ C lv N (e :: es) ρ σ (a :: as) ρ₂ σ₂:=by
 intro A env μ s pos Q E ok G F hQ
 rw [a7 hn]
 exact FW (h A env μ s _ _ ok G F fun v μ1 s1 P1 r=>hs A env μ1 s1 pos _ _ ok P1.good P1.fr fun vs μ2 s2 P2 rs=>hQ (v :: vs) μ2 s2 (P1.trans P2) ⟨P2.val P1.good P1.fr r,rs⟩)
end
noncomputable def ci (C:Cx) (lv:Lv) (N:aF) (t:Expr) (a:AV) (ρ:aO) (σ:aC) (ρ':aO) (σ':aC):Prop:=
 ∀ (A:Around) (env:Env) (μ:Mu) (s:Shared) (v:Value) (Q:Unit->Shared->Prop) (E:Value->Shared->Prop),C.Ok->aX C lv A μ σ s->aM A N env μ ρ s.heap->af μ s.heap a v->
  (∀ μ' s',aS C lv A N env μ s ρ' σ' μ' s'->Q () s')->wpAny (model C.prog C.w) A (assign t env v) Q E s
section
variable {C:Cx} {lv:Lv} {N:aF} {ρ ρ₁ ρ₂ ρ₃ ρ':aO} {σ σ₁ σ₂ σ₃ σ':aC} {o:Out} {a b:AV}
theorem rS {x:Str} {pos:Pos} (l:bS N ρ x .local a ρ₁):ci C lv N (.Name x pos) a ρ σ ρ₁ σ:=fun A env μ s v Q E ok G F r hQ=>
 Jf (gD G F l (.inl rfl) r fun s' P=>hQ μ s' P)
theorem tZ {x:Str} {pos:Pos} (l:bS N ρ x .cell a ρ₁):ci C lv N (.Name x pos) a ρ σ ρ₁ σ:=fun A env μ s v Q E ok G F r hQ=>
 Jf (gD G F l (.inr rfl) r fun s' P=>hQ μ s' P)
theorem aB {t value:Expr} {pos:Pos} (hv:aG C lv N value ρ σ a ρ₁ σ₁) (ht:ci C lv N t a ρ₁ σ₁ ρ₂ σ₂) (he:autoParam (∀ env,(IJ [t] env).map (·.2)=[assign t env]) aI)
  (hs:autoParam (∀ env,Jr [t] value pos.line env=pure false) aI) (hw:autoParam (∀ env,Io [t] value env=pure none) aI):aq C lv N (.Assign [t] value pos) ρ σ .nxt ρ₂ σ₂:=fun A env μ s Q E ok G F hQ=>
 JJ (by
  rw [he]
  exact hv A env μ s _ _ ok G F fun v μ1 s1 P1 r=>ht A env μ1 s1 v _ _ ok P1.good P1.fr r fun μ2 s2 P2=>hQ _ μ2 s2 (P1.trans P2) rfl) (hs env) (hw env)
theorem ow {t t' value:Expr} {pos:Pos} (hv:aG C lv N value ρ σ a ρ₁ σ₁) (ht:ci C lv N t a ρ₁ σ₁ ρ₂ σ₂) (ht':ci C lv N t' a ρ₂ σ₂ ρ₃ σ₃) (he:autoParam (∀ env,(IJ [t,t'] env).map (·.2)=[assign t env,assign t' env]) aI)
  (hw:autoParam (∀ env,Io [t,t'] value env=pure none) aI):aq C lv N (.Assign [t,t'] value pos) ρ σ .nxt ρ₃ σ₃:=fun A env μ s Q E ok G F hQ=>
 wpAny_Assign_two (hv A env μ s _ _ ok G F fun v μ1 s1 P1 r=>ht A env μ1 s1 v _ _ ok P1.good P1.fr r fun μ2 s2 P2=>ht' A env μ2 s2 v _ _ ok P2.good P2.fr (P2.val P1.good P1.fr r) fun μ3 s3 P3=>hQ _ μ3 s3 (P1.trans (P2.trans P3)) rfl) (he env) (hw env)
theorem bO {e:Expr} {pos:Pos} (h:aG C lv N e ρ σ a ρ₁ σ₁) (hs:autoParam (∀ env,swapsWith e none pos.line env=pure false) aI):aq C lv N (.Expr e pos) ρ σ .nxt ρ₁ σ₁:=fun A env μ s Q E ok G F hQ=>
 wpAny_Expr_any (h A env μ s _ _ ok G F fun v μ1 s1 P1 zz=>hQ _ μ1 s1 P1 rfl) (by unfold interactive;rw [F.fn];rfl) (hs env)
theorem aT {e:Expr} {pos:Pos} (h:aG C lv N e ρ σ a ρ₁ σ₁):aq C lv N (.Return (some e) pos) ρ σ (.ret a) ρ₁ σ₁:=fun A env μ s Q E ok G F hQ=>
 wpAny_Return_some (h A env μ s _ _ ok G F fun v μ1 s1 P1 r=>hQ _ μ1 s1 P1 ⟨v,rfl,r⟩)
theorem gx {pos:Pos}:aq C lv N (.Break pos) ρ σ .brk ρ σ:=fun A env μ s Q E ok G F hQ=>wpAny_Break (hQ _ μ s (aS.refl G F) rfl)
theorem yZ {pos:Pos}:aq C lv N (.Continue pos) ρ σ .cnt ρ σ:=fun A env μ s Q E ok G F hQ=>wpAny_Continue (hQ _ μ s (aS.refl G F) rfl)
theorem bL {t:Expr} {x y:List Stmt} {pos:Pos} (h:aY C lv N t ρ σ true ρ₁ σ₁) (hx:aw C lv N x ρ₁ σ₁ o ρ₂ σ₂):aq C lv N (.If t x y pos) ρ σ o ρ₂ σ₂:=fun A env μ s Q E ok G F hQ=>
 wpAny_If (h A env μ s _ _ ok G F fun μ1 s1 P1=>hx A env μ1 s1 _ _ ok P1.good P1.fr fun f μ2 s2 P2 r=>hQ f μ2 s2 (P1.trans P2) r)
theorem aN {t:Expr} {x y:List Stmt} {pos:Pos} (h:aY C lv N t ρ σ false ρ₁ σ₁) (hx:aw C lv N y ρ₁ σ₁ o ρ₂ σ₂):aq C lv N (.If t x y pos) ρ σ o ρ₂ σ₂:=fun A env μ s Q E ok G F hQ=>
 wpAny_If (h A env μ s _ _ ok G F fun μ1 s1 P1=>hx A env μ1 s1 _ _ ok P1.good P1.fr fun f μ2 s2 P2 r=>hQ f μ2 s2 (P1.trans P2) r)
theorem aH:aw C lv N [] ρ σ .nxt ρ σ:=fun A env μ s Q E ok G F hQ=>wpAny_execs_nil (hQ _ μ s (aS.refl G F) rfl)
theorem aA {st:Stmt} {r:List Stmt} (h:aq C lv N st ρ σ .nxt ρ₁ σ₁) (hr:aw C lv N r ρ₁ σ₁ o ρ₂ σ₂):aw C lv N (st :: r) ρ σ o ρ₂ σ₂:=fun A env μ s Q E ok G F hQ=>
 Hy (h A env μ s _ _ ok G F fun f μ1 s1 P1 e=>by
  obtain rfl:=e;exact hr A env μ1 s1 _ _ ok P1.good P1.fr fun f μ2 s2 P2 r=>hQ f μ2 s2 (P1.trans P2) r)
theorem cB {st:Stmt} {r:List Stmt} (h:aq C lv N st ρ σ o ρ₁ σ₁) (ho:o≠.nxt):aw C lv N (st :: r) ρ σ o ρ₁ σ₁:=fun A env μ s Q E ok G F hQ=>
 Hy (h A env μ s _ _ ok G F fun f μ1 s1 P1 e=>by
  have z:=hQ f μ1 s1 P1 e
  cases o with
  | nxt=>exact absurd rfl ho
  | brk=>obtain rfl:=e;exact z
  | cnt=>obtain rfl:=e;exact z
  | ret a=>obtain ⟨v,rfl,_⟩:=e;exact z)
theorem a8 {st:Stmt} {r:List Stmt} (h:aq C lv N st ρ σ (.ret a) ρ₁ σ₁):aw C lv N (st :: r) ρ σ (.ret a) ρ₁ σ₁:=cB h (by intro q;cases q)
theorem aw.sub {b:List Stmt} (h:aw C lv N b ρ σ o ρ₁ σ₁) (hs:Sub ρ₁ ρ₂):aw C lv N b ρ σ o ρ₂ σ₁:=fun A env μ s Q E ok G F hQ=>h A env μ s Q E ok G F fun f μ1 s1 P r=>hQ f μ1 s1 (P.sub hs) r
theorem aq.sub {b:Stmt} (h:aq C lv N b ρ σ o ρ₁ σ₁) (hs:Sub ρ₁ ρ₂):aq C lv N b ρ σ o ρ₂ σ₁:=fun A env μ s Q E ok G F hQ=>h A env μ s Q E ok G F fun f μ1 s1 P r=>hQ f μ1 s1 (P.sub hs) r
inductive uZ (K:aO->aC->Prop) (o:Out) (ρ₂:aO) (σ₂:aC) (o':Out) (ρ':aO) (σ':aC):Prop
 | again (ρ₃:aO):o=.nxt\/o=.cnt->Sub ρ₂ ρ₃->K ρ₃ σ₂->uZ K o ρ₂ σ₂ o' ρ' σ'
 | brk:ρ₂=ρ'->σ₂=σ'->o=.brk->o'=.nxt->uZ K o ρ₂ σ₂ o' ρ' σ'
 | ret (a:AV):ρ₂=ρ'->σ₂=σ'->o=.ret a->o'=.ret a->uZ K o ρ₂ σ₂ o' ρ' σ'
noncomputable def zj (C:Cx) (lv:Lv) (N:aF) (test:Expr) (body orelse:List Stmt) (K:aO->aC->Prop) (ρ:aO) (σ:aC) (o':Out) (ρ':aO) (σ':aC):Prop:=
 ∀ P:Prop,(∀ ρ₁ σ₁,aY C lv N test ρ σ false ρ₁ σ₁->aw C lv N orelse ρ₁ σ₁ o' ρ' σ'->P)->(∀ ρ₁ σ₁ o ρ₂ σ₂,aY C lv N test ρ σ true ρ₁ σ₁->aw C lv N body ρ₁ σ₁ o ρ₂ σ₂->uZ K o ρ₂ σ₂ o' ρ' σ'->P)->P
noncomputable def eU (C:Cx) (lv:Lv) (N:aF) (test:Expr) (body orelse:List Stmt):Nat->aO->aC->Out->aO->aC->Prop
 | 0,ρ,σ,o',ρ',σ'=>zj C lv N test body orelse (fun zz zz=>False) ρ σ o' ρ' σ'
 | k+1,ρ,σ,o',ρ',σ'=>zj C lv N test body orelse (fun ρ₃ σ₃=>eU C lv N test body orelse k ρ₃ σ₃ o' ρ' σ') ρ σ o' ρ' σ'
section
variable {test:Expr} {body orelse:List Stmt} {k:Nat} {o':Out}
theorem eU.done (a:aY C lv N test ρ σ false ρ₁ σ₁) (b:aw C lv N orelse ρ₁ σ₁ o ρ₂ σ₂):eU C lv N test body orelse k ρ σ o ρ₂ σ₂:=by cases k<;>exact fun P h zz=>h _ _ a b
theorem eU.turn (a:aY C lv N test ρ σ true ρ₁ σ₁) (b:aw C lv N body ρ₁ σ₁ o ρ₂ σ₂) (c:o=.nxt\/o=.cnt) (d:Sub ρ₂ ρ₃) (e:eU C lv N test body orelse k ρ₃ σ₂ o' ρ' σ'):eU C lv N test body orelse (k+1) ρ σ o' ρ' σ':=fun P zz h=>h _ _ _ _ _ a b (.again _ c d e)
theorem eU.brk (a:aY C lv N test ρ σ true ρ₁ σ₁) (b:aw C lv N body ρ₁ σ₁ .brk ρ₂ σ₂):eU C lv N test body orelse k ρ σ .nxt ρ₂ σ₂:=by cases k<;>exact fun P zz h=>h _ _ _ _ _ a b (.brk rfl rfl rfl rfl)
theorem eU.ret {a:AV} (h:aY C lv N test ρ σ true ρ₁ σ₁) (b:aw C lv N body ρ₁ σ₁ (.ret a) ρ₂ σ₂):eU C lv N test body orelse k ρ σ (.ret a) ρ₂ σ₂:=by cases k<;>exact fun P zz g=>g _ _ _ _ _ h b (.ret _ rfl rfl rfl rfl)
end
theorem eU.inv {test:Expr} {body orelse:List Stmt} {k:Nat} {o':Out} {P:Prop} (h:eU C lv N test body orelse k ρ σ o' ρ' σ') (h1:∀ ρ₁ σ₁,aY C lv N test ρ σ false ρ₁ σ₁->aw C lv N orelse ρ₁ σ₁ o' ρ' σ'->P)
  (h2:∀ ρ₁ σ₁ o ρ₂ σ₂,aY C lv N test ρ σ true ρ₁ σ₁->aw C lv N body ρ₁ σ₁ o ρ₂ σ₂->uZ (fun ρ₃ σ₃=>∃ m,m<k/\eU C lv N test body orelse m ρ₃ σ₃ o' ρ' σ') o ρ₂ σ₂ o' ρ' σ'->P):P:=by
 cases k with
 | zero=>exact h P h1 fun zz zz zz zz zz a b c=>h2 _ _ _ _ _ a b (by
  cases c with
  | again _ _ _ e=>exact e.elim
  | brk e1 e2 e3 e4=>exact .brk e1 e2 e3 e4
  | ret _ e1 e2 e3 e4=>exact .ret _ e1 e2 e3 e4)
 | succ k=>exact h P h1 fun zz zz zz zz zz a b c=>h2 _ _ _ _ _ a b (by
  cases c with
  | again _ e1 e2 e=>exact .again _ e1 e2 ⟨_,E6 _,e⟩
  | brk e1 e2 e3 e4=>exact .brk e1 e2 e3 e4
  | ret _ e1 e2 e3 e4=>exact .ret _ e1 e2 e3 e4)
theorem dL {test:Expr} {body orelse:List Stmt} {pos:Pos} {k:Nat} (h:eU C lv N test body orelse k ρ σ o ρ' σ'):aq C lv N (.While test body orelse pos) ρ σ o ρ' σ':=fun A env μ s Q E ok G F hQ=>by
 refine wpAny_While (codeAny_whileLoop (fun n s₁=>∃ μ₁ ρ₁ σ₁,eU C lv N test body orelse n ρ₁ σ₁ o ρ' σ'/\aS C lv A N env μ s ρ₁ σ₁ μ₁ s₁) (fun n s₁ hI=>?_) k ⟨μ,ρ,σ,h,aS.refl G F⟩)
 obtain ⟨μ₁,ρ₁,σ₁,hw,P⟩:=hI
 refine hw.inv (fun ρ₂ σ₂ ht hb=>?_) fun ρ₂ σ₂ o1 ρ₃ σ₃ ht hb hx=>?_
 ·exact ht A env μ₁ s₁ _ _ ok P.good P.fr fun μ2 s2 P2=>hb A env μ2 s2 _ _ ok P2.good P2.fr fun f μ3 s3 P3 r=>hQ f μ3 s3 (P.trans (P2.trans P3)) r
 ·refine ht A env μ₁ s₁ _ _ ok P.good P.fr fun μ2 s2 P2=>hb A env μ2 s2 _ _ ok P2.good P2.fr fun f μ3 s3 P3 r=>?_
  have P':=P.trans (P2.trans P3);clear P2 P3 ht hb hw P h
  cases hx with
  | again ρ₄ ho hs hw=>
   obtain ⟨m,hm,hw⟩:=hw
   rcases ho with rfl | rfl<;>obtain rfl:=r<;>exact ⟨_,hm,μ3,_,_,hw,P'.sub hs⟩
  | brk e1 e2 e3 e4=>
   subst e1 e2 e3 e4;obtain rfl:=r;exact hQ _ μ3 s3 P' rfl
  | ret a e1 e2 e3 e4=>
   subst e1 e2 e3 e4;obtain ⟨v,rfl,r⟩:=r;exact hQ _ μ3 s3 P' ⟨v,rfl,r⟩
structure eX (prog:Fq) (w:World) (A:Around) (tg:Expr) (I:Addr) (fp wr:List Addr) (n:Nat) (P:Nat->Value->Nat->Heap->Prop) (St:Nat->Heap->Prop):Prop where
 sub:∀ b∈wr,b∈fp
 frame:∀ i h h',St i h->(∀ b∈fp,∀ o,h.get? b=some o->h'.get? b=some o)->St i h'
 item:∀ i (s:Shared) (Q:Option Value->Shared->Prop) (K:Value->Shared->Prop) (E:Value->Shared->Prop),i<n->St i s.heap->(∀ v s1,wpAny (model prog w) A (HH tg (.ref I) v) (fun zz s2=>K v s2) E s1->Q (some v) s1)->
  (∀ v h' tk,P i v s.heap.objs.size h'->St (i+1) h'->(∀ b o,b∉wr->s.heap.get? b=some o->h'.get? b=some o)->s.heap.objs.size<=h'.objs.size->K v {s with heap:=h',toks:=tk})->wpAny (model prog w) A (pyNext (.ref I)) Q E s
 done:∀ (s:Shared) (Q:Option Value->Shared->Prop) (E:Value->Shared->Prop),St n s.heap->
  (∀ h' tk,(∀ b o,b∉wr->s.heap.get? b=some o->h'.get? b=some o)->Q none {s with heap:=h',toks:=tk})->wpAny (model prog w) A (pyNext (.ref I)) Q E s
 self:∀ i (s:Shared) (Q:Value->Shared->Prop) (E:Value->Shared->Prop),St i s.heap->Q (.ref I) s->wpAny (model prog w) A (pyIter (.ref I)) Q E s
theorem eX.of {prog:Fq} {w:World} {A:Around} {tg:Expr} {I:Addr} {fp wr:List Addr} {n:Nat} {P:Nat->Value->Prop} {St:Nat->Heap->Prop} (W:Walks prog w A I fp wr n P St)
  (hgo:∀ i v (s:Shared) (Q:Unit->Shared->Prop) (E:Value->Shared->Prop),P i v->St (i+1) s.heap->Q () s->wpAny (model prog w) A (HH tg (.ref I) v) Q E s):eX prog w A tg I fp wr n (fun i v zz zz=>P i v) St where
 sub:=W.sub
 frame:=W.frame
 item:=fun i s Q K E hi st hQ hK=>ao (W.item i s _ _ hi st fun v h' tk hP st' hk hl=>hQ v _ (hgo i v _ _ _ hP st' (hK v h' tk hP st' hk hl)))
 done:=W.done
 self:=W.self
theorem eX.name {prog:Fq} {w:World} {A:Around} {tg:Expr} {I:Addr} {fp wr:List Addr} {n:Nat} {P:Nat->Value->Prop} {St:Nat->Heap->Prop} (W:Walks prog w A I fp wr n P St) (hl:∀ it v,HH tg it v=pure ()) :
  eX prog w A tg I fp wr n (fun i v zz zz=>P i v) St:=.of W fun i v s Q E zz zz hQ=>GG (hl _ _) hQ
noncomputable def jd (C:Cx) (A:Around) (N:aF) (tg:Expr) (env:Env) (μ:Mu) (ls:List Nat) (base:Nat) (h:Heap) (I:Addr) (items:List AV):Prop:=
 ∃ fp wr P St,eX C.prog C.w A tg I fp wr items.length P St/\St 0 h/\(∀ b∈fp,b<h.objs.size)/\(∀ b∈fp,¬ WS {μ with fz:=ls++μ.fz} N env b/\¬ FA A b)/\(∀ b∈wr,b∈μ.hid/\b∉μ.foot/\base<=b) /\
  (∀ b∈fp,b∈μ.hid->b∈wr\/b∈μ.foot)/\∀ (i:Nat) v a n h' μ',items[i]? = some a->P i v n h'->(∀ b∈μ'.hid,b<n)->Mov μ μ' h h'->af μ' h' a v
noncomputable def gO (C:Cx) (lv:Lv) (N:aF) (tg:Expr) (e:Expr) (ls:List Nat) (ρ:aO) (σ:aC) (items:List AV) (ρ':aO) (σ':aC):Prop:=
 ∀ (A:Around) (env:Env) (μ:Mu) (s:Shared) (Q:Value->Shared->Prop) (E:Value->Shared->Prop),C.Ok->aX C lv A μ σ s->aM A N env μ ρ s.heap->
  (∀ I μ' s',aS C lv A N env μ s ρ' σ' μ' s'->jd C A N tg env μ' ls s.heap.objs.size s'.heap I items->Q (.ref I) s')->wpAny (model C.prog C.w) A (eval e env) (fun x s₁=>wpAny (model C.prog C.w) A (pyIter x) Q E s₁) E s
noncomputable def fc (C:Cx) (lv:Lv) (N:aF) (tg:Expr) (body orelse:List Stmt):List AV->aO->aC->Out->aO->aC->Prop
 | [],ρ,σ,o',ρ',σ'=>aw C lv N orelse ρ σ o' ρ' σ'
 | x :: xs,ρ,σ,o',ρ',σ'=>∀ P:Prop,(∀ ρ₁ σ₁ o ρ₂ σ₂,ci C lv N tg x ρ σ ρ₁ σ₁->aw C lv N body ρ₁ σ₁ o ρ₂ σ₂->uZ (fun ρ₃ σ₃=>fc C lv N tg body orelse xs ρ₃ σ₃ o' ρ' σ') o ρ₂ σ₂ o' ρ' σ'->P)->P
section
variable {tg:Expr} {body orelse:List Stmt} {x:AV} {xs:List AV} {o':Out}
theorem fc.done (a:aw C lv N orelse ρ σ o ρ₂ σ₂):fc C lv N tg body orelse [] ρ σ o ρ₂ σ₂:=a
theorem fc.turn (a:ci C lv N tg x ρ σ ρ₁ σ₁) (b:aw C lv N body ρ₁ σ₁ o ρ₂ σ₂) (c:o=.nxt\/o=.cnt) (d:Sub ρ₂ ρ₃) (e:fc C lv N tg body orelse xs ρ₃ σ₂ o' ρ' σ'):fc C lv N tg body orelse (x :: xs) ρ σ o' ρ' σ':=fun P k=>k _ _ _ _ _ a b (.again _ c d e)
theorem fc.ret {r:AV} (a:ci C lv N tg x ρ σ ρ₁ σ₁) (b:aw C lv N body ρ₁ σ₁ (.ret r) ρ₂ σ₂):fc C lv N tg body orelse (x :: xs) ρ σ (.ret r) ρ₂ σ₂:=fun P k=>k _ _ _ _ _ a b (.ret _ rfl rfl rfl rfl)
end
structure zO (C:Cx) (lv:Lv) (A:Around) (N:aF) (env:Env) (K:List AV->aO->aC->Prop) (items:List AV) (m1:Mu) (s1:Shared) (wr:List Addr) (St:Nat->Heap->Prop) (n i:Nat) (ρ₂:aO) (σ₂:aC) (μ₂:Mu) (s₂:Shared):Prop where
 run:K (items.drop i) ρ₂ σ₂
 good:aX C lv A μ₂ σ₂ s₂
 fr:aM A N env μ₂ ρ₂ s₂.heap
 ext:Ext m1 μ₂ s1.heap.objs.size
 kept:aL A (fun b=>WS m1 N env b\/b∈wr) s1 s₂
 st:St i s₂.heap
 left:n=items.length - i
 le:i<=items.length
theorem af.fz {μ:Mu} {f:List Nat} {h:Heap} {a:AV} {v:Value}:af {μ with fz:=f} h a v↔af μ h a v:=by cases a<;>exact Iff.rfl
theorem Ext.fz {μ:Mu} {f:List Nat} {n:Nat}:Ext μ {μ with fz:=f} n:=⟨⟨[],by simp,jI⟩,fun zz h=>h,fun zz h=>.inl h⟩
theorem aX.fz {A:Around} {μ:Mu} {s:Shared} (G:aX C lv A μ σ s) (f:List Nat):aX C {lv with fz:=f} A {μ with fz:=f} σ s:=
 ⟨G.quiet,rfl,G.room,G.units,G.top,G.base,G.low,G.lt,⟨G.sim.len,fun i p o hp ho=>(G.sim.rep i p o hp ho).mono Ext.fz (aL.refl A0 NoW s) noW fun zz zz zz e=>e,G.sim.foot,G.sim.apart,G.sim.self⟩,G.frs.up (n:=0) Ext.fz (aL.refl A0 NoW s) G.lt⟩
theorem aM.fz {env:Env} {μ:Mu} {s:Shared} (F:aM A N env μ ρ s.heap) (f:List Nat):aM A N env {μ with fz:=f} ρ s.heap:=
 F.ext Ext.fz (aL.refl A0 NoW s) noW id fun zz zz h=>h
theorem WS.fz {μ:Mu} {env:Env} {ls:List Nat} {b:Addr} (h:WS {μ with fz:=ls++μ.fz} N env b):WS μ N env b:=by
 rcases h with ⟨i,p,hp,hi,hb⟩ | h
 ·exact .inl ⟨i,p,hp,fun q=>hi (EG.mpr (.inr q)),hb⟩
 ·exact .inr h
theorem md {n i:Nat} (h:i<n):n - (i+1)<n - i:=JH h (E6 i)
theorem bf {t iter:Expr} {body orelse:List Stmt} {pos:Pos} {ls:List Nat} {items:List AV} (hi:gO C lv N t iter ls ρ σ items ρ₁ σ₁) (hf:fc C {lv with fz:=ls++lv.fz} N t body orelse items ρ₁ σ₁ o ρ' σ')
  (hs:autoParam (∀ env x,Fu iter env x=pure x) aJ):aq C lv N (.For t iter body orelse pos) ρ σ o ρ' σ':=fun A env μ s Q E ok G F hQ=>by
 refine wpAny_For (hi A env μ s _ _ ok G F fun I μ1 s1 P1 hIt=>?_) (hs env)
 obtain ⟨fp,wr,P,St,W,st0,hlt,hfp,hwr,-,hP⟩:=hIt
 have hz1:μ1.fz=lv.fz:=P1.good.frz
 rw [hz1] at hfp
 have hnf:∀ b∈fp,¬ FA A b:=fun b hb=>(hfp b hb).2
 have' hwL:∀ b∈wr,¬ env.locals=b:=fun b hb q=>by
  obtain ⟨m,hn,_⟩:=F.vals;have l1:=ltA hn.lt;have l2:=leA (hwr b hb).2.2
  rw [q] at l1;omega
 have' hwC:∀ b∈wr,∀ p∈env.cells,¬ p.2=b:=fun b hb p hp q=>by
  obtain ⟨_,_,_,v,hv⟩:=F.cells p hp;have l1:=ltA hv.lt;have l2:=leA (hwr b hb).2.2
  rw [q] at l1;omega
 have G1:=P1.good.fz (ls++lv.fz)
 have F1:=P1.fr.fz (ls++lv.fz)
 generalize hm:({μ1 with fz:=ls++lv.fz}:Mu)=m1 at G1 F1 hfp
 have hh1:m1.hid=μ1.hid:=by rw [<- hm]
 have ho1:m1.objs=μ1.objs:=by rw [<- hm]
 have hf1:m1.foot=μ1.foot:=by unfold Mu.foot;rw [ho1]
 have' WWh:∀ b,(WS m1 N env b\/b∈wr)\/FA A b->b∈m1.hid\/s1.heap.objs.size<=b:=G1.fw fun b hb=>hb.elim (fun q=>.inl (dC G1.sim F1 b q)) fun q=>.inl (hh1▸(hwr b q).1)
 have fin:∀ μ3 s3,aX C {lv with fz:=ls++lv.fz} A μ3 σ' s3->aM A N env μ3 ρ' s3.heap->Ext m1 μ3 s1.heap.objs.size->aL A (fun b=>WS m1 N env b\/b∈wr) s1 s3->aS C lv A N env μ s ρ' σ' {μ3 with fz:=lv.fz} s3:=by
  intro μ3 s3 g f x k;have x':Ext μ1 {μ3 with fz:=lv.fz} s1.heap.objs.size:=⟨by have:=x.grow;rw [ho1] at this;exact this,fun b hb=>x.sub b (hh1▸hb),fun b hb=>hh1▸x.new b hb⟩
  refine ⟨G.frz,g.fz lv.fz,f.fz lv.fz,P1.ext.trans x' P1.kept.le,P1.kept.trans k fun b hb=>?_⟩
  rcases hb with q | q
  ·rw [<- hm,<- hz1] at q
   exact bi P1.ext (hz1.trans G.frz.symm) b (WS.fz q)
  ·exact .inr (hwr b q).2.2
 refine Kr (fun n s₂=>∃ i ρ₂ σ₂ μ₂,zO C {lv with fz:=ls++lv.fz} A N env (fun xs ρ₂ σ₂=>fc C {lv with fz:=ls++lv.fz} N t body orelse xs ρ₂ σ₂ o ρ' σ') items m1 s1 wr St n i ρ₂ σ₂ μ₂ s₂)
  (fun n s₂ hI=>?_) (items.length - 0) ⟨0,ρ₁,σ₁,m1,hf,G1,F1,Ext.refl _ _,aL.refl _ _ _,st0,rfl,En _⟩
 clear hf P1 hi G F hs
 obtain ⟨i,ρ₂,σ₂,μ₂,V⟩:=hI
 have G2:=V.good
 have x2:=V.ext
 have step:∀ h' tk,(∀ b o,b∉wr->s₂.heap.get? b=some o->h'.get? b=some o)->s₂.heap.objs.size<=h'.objs.size->
   aX C {lv with fz:=ls++lv.fz} A μ₂ σ₂ {s₂ with heap:=h',toks:=tk}/\aM A N env μ₂ ρ₂ h'/\aL A (fun b=>WS m1 N env b\/b∈wr) s1 {s₂ with heap:=h',toks:=tk}:=by
  intro h' tk hk hl;have k:aL A (·∈wr) s₂ {s₂ with heap:=h',toks:=tk}:=⟨h',_,_,rfl,⟨hl,id⟩,fun b o hb e=>.inl (hk b o hb e)⟩
  have w1:∀ b∈wr,b∈μ₂.hid:=fun b hb=>x2.sub b (hh1▸(hwr b hb).1)
  refine ⟨G2.turn k w1 (fun b hb q=>?_) (fun b hf hb=>absurd hf (hnf b (W.sub b hb))),V.fr.ext (s':={s₂ with heap:=h',toks:=tk}) (Ext.refl _ _) k (G2.fw fun b hb=>.inl (w1 b hb)) (fun q=>hwL _ q rfl) (fun p hp q=>hwC _ q p hp rfl),V.kept.trans k fun b hb=>.inl (.inr hb)⟩
  rcases x2.foot b q with q | q
  ·exact (hwr b hb).2.1 (hf1▸q)
  ·exact absurd (hlt b (W.sub b hb)) (E3.mpr q)
 have keepSt:∀ j (s₃ s₄:Shared) μ₃ σ₃ ρ₃,St j s₃.heap->Ext m1 μ₃ s1.heap.objs.size->aX C {lv with fz:=ls++lv.fz} A μ₃ σ₃ s₃->aM A N env μ₃ ρ₃ s₃.heap->aL A (WS μ₃ N env) s₃ s₄->St j s₄.heap:=by
  intro j s₃ s₄ μ₃ σ₃ ρ₃ st x g f k;refine W.frame j _ _ st fun b hb o e=>k.at (fun q=>?_) (hnf b hb) e
  rcases bi x (by rw [g.frz,<- hm]) b q with q | q
  ·exact (hfp b hb).1 q
  ·exact absurd (hlt b hb) (E3.mpr q)
 have hf:=V.run
 rcases JM i items.length with hi | hi
 ·rw [Gg hi] at hf
  refine hf _ fun ρa σa o1 ρb σb ha hb hrest=>?_
  refine W.item i s₂ _ _ _ hi V.st (fun v s1 h=>h) fun v h' tk hv st' hk hl=>?_
  obtain ⟨g,f,k⟩:=step h' tk hk hl;have r:af μ₂ h' _ v:=hP i v _ _ _ _ (Eb hi) hv G2.lt ((Mov.of (s':={s₂ with heap:=h',toks:=tk}) x2 k WWh).eqL hh1 ho1);refine ha A env μ₂ _ v _ _ ok g f r fun μ3 s3 P3=>hb A env μ3 s3 _ _ ok P3.good P3.fr fun fl μ4 s4 P4 r=>?_
  have k4:=(k.trans P3.kept fun b q=>(bi x2 (by rw [G2.frz,<- hm]) b q).imp .inl id)
  have x3:=x2.trans P3.ext k.le;have k5:=(k4.trans P4.kept fun b q=>(bi x3 (by rw [P3.good.frz,<- hm]) b q).imp .inl id)
  have x4:=x3.trans P4.ext k4.le
  cases hrest with
  | again ρc ho hs hf=>
   have' st4:St (i+1) s4.heap:=keepSt _ s3 s4 μ3 _ _ (keepSt _ {s₂ with heap:=h',toks:=tk} s3 μ₂ _ _ st' x2 g f P3.kept) x3 P3.good P3.fr P4.kept;have z:=zO.mk (K:=fun xs ρ₂ σ₂=>fc C {lv with fz:=ls++lv.fz} N t body orelse xs ρ₂ σ₂ o ρ' σ') hf P4.good (P4.fr.sub hs) x4 k5 st4 rfl hi
   rcases ho with rfl | rfl<;>obtain rfl:=r<;>exact ⟨_,V.left▸md hi,_,_,_,_,z⟩
  | brk e1 e2 e3 e4=>
   subst e3 e4;obtain rfl:=r;exact hQ _ _ s4 (fin μ4 s4 (e2▸P4.good) (e1▸P4.fr) x4 k5) rfl
  | ret a e1 e2 e3 e4=>
   subst e3 e4;obtain ⟨v',rfl,r⟩:=r;exact hQ _ _ s4 (fin μ4 s4 (e2▸P4.good) (e1▸P4.fr) x4 k5) ⟨v',rfl,af.fz.mpr r⟩
 ·obtain rfl:i=items.length:=HG V.le hi
  rw [Fn hi] at hf
  refine ao (W.done s₂ _ _ V.st fun h' tk hk hl=>?_)
  obtain ⟨g,f,k⟩:=step h' tk hk hl;exact hf A env μ₂ _ _ _ ok g f fun f μ3 s3 P3 r=>hQ f _ s3 (fin μ3 s3 P3.good P3.fr (x2.trans P3.ext k.le) (k.trans P3.kept fun b q=>(bi x2 (by rw [G2.frz,<- hm]) b q).imp .inl id)) (by
   cases o with
   | ret a=>exact let ⟨v,e,r⟩:=r;⟨v,e,af.fz.mpr r⟩
   | nxt=>exact r
   | brk=>exact r
   | cnt=>exact r)
end
section
variable {C:Cx} {lv:Lv} {N:aF} {ρ ρ₁ ρ₂ ρ₃ ρ':aO} {σ σ₁ σ₂ σ₃ σ':aC} {o:Out} {a b:AV} {A:Around} {env:Env} {μ μ':Mu} {s s':Shared}
theorem aS.hide {l:List Addr} (G:aX C lv A μ σ s) (F:aM A N env μ ρ s.heap) (k:aL A0 NoW s s') (hb:∀ b∈l,s.heap.objs.size<=b/\b<s'.heap.objs.size):aS C lv A N env μ s ρ σ (μ.hide l) s':=
 let x:=fW (μ:=μ) fun b h=>(hb b h).1
 ⟨G.frz,G.hide k hb,F.ext x k noW id (fun zz zz hb=>hb),x,k.lift⟩
theorem bh {h:Heap} {vs:List Value} {ds:List PyData} {as:List Addr} (q:FZ h vs ds as) (i:Nat) (v:Value) (d:PyData) (e:vs[i]? = some v) (e':ds[i]? = some d):∃ bs,Reads h v d bs:=by
 induction ds generalizing vs as i with
 | nil=>cases e'
 | cons d' ds ih=>cases q using RA1 with
  | cons r t=>cases i with
   | zero=>cases e;cases e';exact ⟨_,r⟩
   | succ i=>exact ih t i e e'
theorem kB {P:Nat->Value->Nat->Heap->Prop} {St:Nat->Heap->Prop} {tg:Expr} {I:Addr} {fp wr news:List Addr} {items:List AV} {ls:List Nat} {base:Nat} (G:aX C lv A μ σ s) (F:aM A N env μ ρ s.heap) (hb':base<=s.heap.objs.size)
  (W:eX C.prog C.w A tg I fp wr items.length P St) (hnew:∀ b∈news,s.heap.objs.size<=b/\b<s'.heap.objs.size) (hwn:∀ b∈wr,b∈news) (k:aL A0 NoW s s') (st:St 0 s'.heap)
  (hfp:∀ b∈fp,b∈wr\/(s.heap.objs.size<=b/\b<s'.heap.objs.size/\b∉news)\/(b<s.heap.objs.size/\¬ WS {μ with fz:=ls++μ.fz} N env b/\(b∈μ.hid->b∈μ.foot)))
  (hP:∀ (i:Nat) v a n h' μ',items[i]? = some a->P i v n h'->(∀ b∈μ'.hid,b<n)->Mov μ μ' s.heap h'->af μ' h' a v) :
  aS C lv A N env μ s ρ σ (μ.hide news) s'/\jd C A N tg env (μ.hide news) ls base s'.heap I items:=by
 have P0:aS C lv A N env μ s ρ σ (μ.hide news) s':=aS.hide G F k hnew
 have' old:∀ b,s.heap.objs.size<=b->b∉μ.foot:=fun b hb q=>absurd (G.lt _ (G.sim.foot _ q)) (E3.mpr hb)
 have oldW:∀ b,s.heap.objs.size<=b->¬ WS {(μ.hide news) with fz:=ls++μ.fz} N env b:=fun b hb q=>by
  have' l:b<s.heap.objs.size:=by
   rcases q with ⟨i,p,hp,_,hb'⟩ | rfl | ⟨x,_,hl⟩
   ·exact G.lt b (G.sim.foot b (aj (EN hp) hb'))
   ·exact G.lt _ F.hidL
   ·exact G.lt _ (F.cells (x,b) (bG hl)).1
  exact absurd l (E3.mpr hb)
 have oldF:∀ b,s.heap.objs.size<=b->¬ FA A b:=fun b hb q=>absurd (G.lt _ (G.frs.fa q).1) (E3.mpr hb)
 refine ⟨P0,fp,wr,P,St,W,st,fun b hb=>?_,fun b hb=>⟨fun q=>?_,fun q=>?_⟩,fun b hb=>?_,fun b hb hh=>?_,fun i v a n h' μ' e p hn m=>hP i v a n h' μ' e p hn ((Mov.of P0.ext P0.kept (G.fw fun b hb=>.inl (dC G.sim F b hb))).trans m)⟩
 ·rcases hfp b hb with h | h | h
  ·exact (hnew b (hwn b h)).2
  ·exact h.2.1
  ·exact E8 h.1 k.le
 ·rcases hfp b hb with h | h | h
  ·exact oldW b (hnew b (hwn b h)).1 q
  ·exact oldW b h.1 q
  ·exact h.2.1 q
 ·rcases hfp b hb with h | h | h
  ·exact oldF b (hnew b (hwn b h)).1 q
  ·exact oldF b h.1 q
  ·exact (G.frs.fa q).2.1 (h.2.2 (G.frs.fa q).1)
 ·exact ⟨EG.mpr (.inl (hwn b hb)),old b (hnew b (hwn b hb)).1,EH hb' (hnew b (hwn b hb)).1⟩
 ·rcases hfp b hb with h | h | h
  ·exact .inl h
  ·rcases EG.mp hh with hh | hh
   ·exact absurd hh h.2.2
   ·exact absurd (G.lt _ hh) (E3.mpr h.1)
  ·rcases EG.mp hh with hh | hh
   ·exact absurd h.1 (E3.mpr (hnew b hh).1)
   ·exact .inr (h.2.2 hh)
theorem dm {P:Nat->Value->Prop} {St:Nat->Heap->Prop} {tg:Expr} {I:Addr} {fp:List Addr} {items:List AV} {ls:List Nat} {base:Nat} (G:aX C lv A μ σ s) (F:aM A N env μ ρ s.heap) (hb':base<=s.heap.objs.size)
  (W:eX C.prog C.w A tg I fp [I] items.length (fun i v zz zz=>P i v) St) (hI:I<s'.heap.objs.size) (hI':s.heap.objs.size<=I) (k:aL A0 NoW s s') (st:St 0 s'.heap)
  (hfp:∀ b∈fp,b=I\/(b<s.heap.objs.size/\¬ WS {μ with fz:=ls++μ.fz} N env b/\(b∈μ.hid->b∈μ.foot))) (hP:∀ (i:Nat) v a,items[i]? = some a->P i v->af μ s.heap a v) :
  aS C lv A N env μ s ρ σ (μ.hide [I]) s'/\jd C A N tg env (μ.hide [I]) ls base s'.heap I items:=
 kB G F hb' W (fun b hb=>by rw [EJ.mp hb];exact ⟨hI',hI⟩) (fun b hb=>hb) k st (fun b hb=>(hfp b hb).imp (fun q=>by rw [q];exact .head _) .inr) fun i v a n h' μ' e p zz m=>af.move m (hP i v a e p)
theorem nA {f:List Nat} {b:Addr} {ob:Obj} (G:aX C lv A μ σ s) (F:aM A N env μ ρ s.heap) (e:(cL μ.hid s.heap).get? b=some ob):¬ WS {μ with fz:=f} N env b:=by
 have hb:b∉μ.hid:=fun hm=>by rw [Hw _ hm] at e;cases e
 rintro (⟨i,p,hp,_,hb'⟩ | rfl | ⟨x,_,hl⟩)
 ·exact hb (G.sim.foot b (aj (EN hp) hb'))
 ·exact hb F.hidL
 ·exact hb (F.cells (x,b) (bG hl)).1
theorem kP {ds:List PyData} {i:Nat} {a:AV} (e:(ds.map AV.dat)[i]? = some a):∃ d,ds[i]? = some d/\a=.dat d:=by
 rw [Em] at e
 cases hx:ds[i]? with
 | none=>rw [hx] at e;cases e
 | some d=>rw [hx] at e;cases e;exact ⟨d,rfl,rfl⟩
theorem bP {h:Heap} {as:List AV} {vs:List Value} (r:ay μ h as vs):vs.length=as.length:=ay.ind r rfl fun zz zz zz zz zz zz ih=>congrArg (· + 1) ih
theorem e8 {h:Heap} {as:List AV} {vs:List Value} (r:ay μ h as vs):∀ (i:Nat) (v:Value) (a:AV),vs[i]? = some v->as[i]? = some a->af μ h a v:=by
 refine ay.ind r (fun i v a e zz=>by cases e) fun a' v' as vs hv zz ih i v a e e'=>?_
 cases i with
 | zero=>cases e;cases e';exact hv
 | succ i=>exact ih i v a (by simpa using e) (by simpa using e')
theorem jO {h:Heap} {ds:List PyData} {vs:List Value} {bs:List Addr} (q:FZ (cL μ.hid h) vs ds bs):ay μ h (ds.map .dat) vs:=by
 induction ds generalizing vs bs with
 | nil=>cases q using RA0;exact trivial
 | cons d ds ih=>cases q using RA1 with
  | cons r t=>exact ⟨⟨_,r⟩,ih t⟩
theorem fR {h:Heap} {ds:List PyData} {vs:List Value} (r:ay μ h (ds.map .dat) vs):∃ bs,FZ (cL μ.hid h) vs ds bs:=by
 induction ds generalizing vs with
 | nil=>cases vs with
  | nil=>exact ⟨_,.nil⟩
  | cons _ _=>exact r.elim
 | cons d ds ih=>cases vs with
  | nil=>exact r.elim
  | cons v vs=>
   obtain ⟨⟨_,r⟩,rs⟩:=r;obtain ⟨_,t⟩:=ih rs;exact ⟨_,.cons r t⟩
theorem kN {b:Addr} {ob:Obj} {hid:List Addr} {h:Heap} (e:(cL hid h).get? b=some ob):b∉hid:=fun hm=>by rw [Hw _ hm] at e;cases e
noncomputable def nZ (e:Expr):Bool:=LM e.ctorIdx 23
theorem iA {tg:Expr} (h:nZ tg=true):∀ it v,HH tg it v=pure ():=by
 cases tg<;>first | (intro _ _;rfl) | cases h
noncomputable def zp (e:Expr):Bool:=LM e.ctorIdx 25
noncomputable def wj:PyData->Bool
 | .tuple _=>true
 | _=>false
inductive OnL (tg:Expr) (ds:List PyData):Prop
 | name:nZ tg=true->OnL tg ds
 | tup:zp tg=true->(∀ d∈ds,wj d=true)->OnL tg ds
theorem OnL.walks {h:Heap} {tg:Expr} {ds:List PyData} {I l:Addr} {fp wr:List Addr} {n:Nat} {vs:Array Value} (t:OnL tg ds) (hr:∃ as,FZ h vs.toList ds as)
  (W:Walks C.prog C.w A I fp wr n (fun i v=>vs[i]? = some v) (fun i h=>h.IsListIter I l i/\h.IsList l vs)):eX C.prog C.w A tg I fp wr n (fun i v zz zz=>vs[i]? = some v) (fun i h=>h.IsListIter I l i/\h.IsList l vs):=by
 cases t with
 | name t=>exact .name W (iA t)
 | tup t hd=>
  refine .of W fun i v s Q E p st hQ=>?_
  obtain ⟨as,hr⟩:=hr;have hi:i<ds.length:=by
   have:=(F0.mp p).1
   rw [<- a9 hr];simpa using this
  obtain ⟨bs,r⟩:=bh hr i v ds[i] (by simpa using p) (by simp [hi])
  have hq:=hd ds[i] (Gi hi)
  cases tg<;>first | cases t | skip
  generalize ds[i]=d at r hq
  cases r<;>first | (cases hq;done) | exact wpAny_letOwnedTupleGo_listiter st.1 hQ
theorem fg {tg e:Expr} {ds:List PyData} (h:aG C lv N e ρ σ (.dat (.list ds)) ρ₁ σ₁) (hq:autoParam (lv.q=true) aR) (ht:OnL tg ds):gO C lv N tg e [] ρ σ (ds.map .dat) ρ₁ σ₁:=by
 intro A env μ s Q E ok G F hQ
 refine h A env μ s _ _ ok G F fun v μ1 s1 P1 qq1=>?_
 obtain ⟨as,r⟩:=qq1
 cases r using RL with
 | @list a o vs n as ho hc hd hr=>
  have hl:s1.heap.IsList a vs:=⟨o,Ez _ ho,hc,n,hd⟩;have hlt:a<s1.heap.objs.size:=Ed (Ez _ ho);have hlen:vs.size=ds.length:=a9 hr;refine Hn hl ?_;have W:=Walks.list (prog:=C.prog) (w:=C.w) (P1.good.quiet hq) s1.heap.objs.size a (FG hlt) vs
  rw [show vs.size=(ds.map AV.dat).length by simp [hlen]] at W
  obtain ⟨P2,it⟩:=dm (tg:=tg) (s':={s1 with heap:=s1.heap.push {cls:=.type "list_iterator",data:=.fields #[.ref a,.int 0 0]}}) (ls:=[]) (base:=s.heap.objs.size) P1.good P1.fr P1.kept.le (ht.walks ⟨_,hr⟩ W) (by show _<(HY _ _).objs.size;rw [EU];exact E6 _) (EK _) (bD _ _)
   ⟨⟨_,ES _ rfl,rfl,rfl⟩,hl.at fun o e=>EM _ e⟩ (fun b hb=>by
    rcases EV.mp hb with rfl | hb
    ·exact .inl rfl
    ·rw [EJ.mp hb];exact .inr ⟨hlt,nA P1.good P1.fr ho,fun q=>absurd q (kN ho)⟩) fun i v a e p=>by
     obtain ⟨d,hd',rfl⟩:=kP e;exact bh hr i v d (by simpa using p) hd'
  exact hQ _ _ _ (P1.trans P2) it
theorem lU {tg e:Expr} {ds:List PyData} (h:aG C lv N e ρ σ (.dat (.tuple ds)) ρ₁ σ₁) (hq:autoParam (lv.q=true) aR) (hnm:autoParam (nZ tg=true) aR):gO C lv N tg e [] ρ σ (ds.map .dat) ρ₁ σ₁:=by
 intro A env μ s Q E ok G F hQ
 refine h A env μ s _ _ ok G F fun v μ1 s1 P1 qq1=>?_
 obtain ⟨as,r⟩:=qq1
 cases r using RT with
 | @tuple a o vs n as ho hc hd hr=>
  have hl:s1.heap.IsTuple a vs:=⟨o,Ez _ ho,hc,n,hd⟩;have hlt:a<s1.heap.objs.size:=Ed (Ez _ ho);have hlen:vs.size=ds.length:=a9 hr;refine wpAny_pyIter_tuple hl ?_;have W:=Walks.tuple (prog:=C.prog) (w:=C.w) (P1.good.quiet hq) s1.heap.objs.size a (FG hlt) vs
  rw [show vs.size=(ds.map AV.dat).length by simp [hlen]] at W
  obtain ⟨P2,it⟩:=dm (tg:=tg) (s':={s1 with heap:=s1.heap.push {cls:=.type "tuple_iterator",data:=.fields #[.ref a,.int 0 0]}}) (ls:=[]) (base:=s.heap.objs.size) P1.good P1.fr P1.kept.le (.name W (iA hnm)) (by show _<(HY _ _).objs.size;rw [EU];exact E6 _) (EK _) (bD _ _)
   ⟨⟨_,ES _ rfl,rfl,rfl⟩,let ⟨o,ho,r⟩:=hl;⟨o,EM _ ho,r⟩⟩ (fun b hb=>by
    rcases EV.mp hb with rfl | hb
    ·exact .inl rfl
    ·rw [EJ.mp hb];exact .inr ⟨hlt,nA P1.good P1.fr ho,fun q=>absurd q (kN ho)⟩) fun i v a e p=>by
     obtain ⟨d,hd',rfl⟩:=kP e;exact bh hr i v d (by simpa using p) hd'
  exact hQ _ _ _ (P1.trans P2) it
theorem jf {i:Nat} {p:Addr×List Addr} {b:Addr} (G:aX C lv A μ σ s) (F:aM A N env μ ρ s.heap) (hp:μ.objs[i]? = some p) (hb:b∈p.2):¬ WS {μ with fz:=[i]++μ.fz} N env b:=by
 rintro (⟨j,q,hq,hj,hb'⟩ | rfl | ⟨x,_,hl⟩)
 ·by_cases hij:j=i
  ·exact hj (hij▸.head _)
  ·exact lY G.sim.apart hq hp hij b hb' hb
 ·exact F.freeL (aj (EN hp) hb)
 ·exact (F.cells (x,b) (bG hl)).2.1 (aj (EN hp) hb)
theorem vd {tg e:Expr} {i:Nat} {xs:List AV} (h:aG C lv N e ρ σ (.ref i) ρ₁ σ₁) (hx:σ₁[i]? = some (.list xs)) (hq:autoParam (lv.q=true) aR) (hnm:autoParam (nZ tg=true) aR):gO C lv N tg e [i] ρ σ xs ρ₁ σ₁:=by
 intro A env μ s Q E ok G F hQ
 refine h A env μ s _ _ ok G F fun v μ1 s1 P1 qq1=>?_
 obtain ⟨p,hp,hv⟩:=qq1
 subst hv
 obtain ⟨e1,vs,hpl,hr⟩:=P1.good.sim.rep i p _ hp hx
 have hl:s1.heap.IsList p.1 vs:=hpl.isList
 have hlt:p.1<s1.heap.objs.size:=P1.good.lt _ (P1.good.sim.foot _ (aj (EN hp) (by rw [e1];exact .head _)))
 have' hlen:vs.size=xs.length:=bP hr
 refine Hn hl ?_
 have W:=Walks.list (prog:=C.prog) (w:=C.w) (P1.good.quiet hq) s1.heap.objs.size p.1 (FG hlt) vs
 rw [hlen] at W
 obtain ⟨P2,it⟩:=dm (tg:=tg) (s':={s1 with heap:=s1.heap.push {cls:=.type "list_iterator",data:=.fields #[.ref p.1,.int 0 0]}}) (ls:=[i]) (base:=s.heap.objs.size) P1.good P1.fr P1.kept.le (.name W (iA hnm)) (by show _<(HY _ _).objs.size;rw [EU];exact E6 _) (EK _) (bD _ _)
  ⟨⟨_,ES _ rfl,rfl,rfl⟩,hl.at fun o e=>EM _ e⟩ (fun b hb=>by
   rcases EV.mp hb with rfl | hb
   ·exact .inl rfl
   ·rw [EJ.mp hb];exact .inr ⟨hlt,jf P1.good P1.fr hp (by rw [e1];exact .head _),fun zz=>aj (EN hp) (by rw [e1];exact .head _)⟩) fun j v a e p=>e8 hr j v a (by simpa using p) e
 exact hQ _ _ _ (P1.trans P2) it
noncomputable def jC (a:Int) (n:Nat):List AV:=(EQ n).map fun (i:Nat)=>AV.dat (.int (a+i))
theorem jl {tg:Expr} {R:Obj} {M c:Int} {tk base:Nat} (hnm:nZ tg=true) (G:aX C lv A μ σ s) (F:aM A N env μ ρ s.heap) (hb:base<=s.heap.objs.size) (hq:lv.q=true) (hsz:(((M - c).toNat:Nat):Int)=Ep.Range.rangeSize c M 1) :
  aS C lv A N env μ s ρ σ (μ.hide [(s.heap.push R).objs.size]) {s with heap:=(s.heap.push R).push {cls:=.type "range_iterator",data:=.fields #[rawInt c,rawInt (Ep.Range.rangeSize c M 1),rawInt 1]},toks:=tk} /\
   jd C A N tg env (μ.hide [(s.heap.push R).objs.size]) [] base ((s.heap.push R).push {cls:=.type "range_iterator",data:=.fields #[rawInt c,rawInt (Ep.Range.rangeSize c M 1),rawInt 1]}) (s.heap.push R).objs.size (jC c (M - c).toNat):=by
 have W:=Walks.range (prog:=C.prog) (w:=C.w) (G.quiet hq) (s.heap.push R).objs.size c 1 (M - c).toNat
 have hl:(jC c (M - c).toNat).length=(M - c).toNat:=by simp [jC]
 generalize hi:jC c (M - c).toNat=items at hl
 rw [<- hl] at W
 refine dm (tg:=tg) (s':={s with heap:=(s.heap.push R).push {cls:=.type "range_iterator",data:=.fields #[rawInt c,rawInt (Ep.Range.rangeSize c M 1),rawInt 1]},toks:=tk}) (ls:=[]) (base:=base) G F hb (.name W (iA hnm)) (by simp only [EU];exact E6 _) (by simp only [EU];exact Ej _) (ab (by simp only [EU];exact Fl (Ej _)) fun b o e=>EM _ (EM _ e)) ?_ (fun b hb=>.inl (EJ.mp hb)) fun i v a e p=>?_
 ·rw [hl,hsz]
  have' e1:c+((0:Nat):Int) * 1=c:=by simp
  have' e2:Ep.Range.rangeSize c M 1 - ((0:Nat):Int)=Ep.Range.rangeSize c M 1:=by simp
  rw [e1,e2]
  exact ES _ rfl
 ·obtain ⟨t,rfl⟩:=p
  rw [<- hi] at e
  have hlt:i<(M - c).toNat:=by
   have:=(EL.mp e).1
   simpa [jC] using this
  have:a=.dat (.int (c+i)):=by
   simp [jC,hlt] at e
   exact e.symm
  subst this
  rw [show c+(i:Int) * 1=c+i by omega]
  exact ⟨_,.int _ t⟩
theorem rZ {tg e:Expr} {rp rpos:Pos} {M:Int} (g:bx N "range") (hm:C.mg "range" = none) (hb:C.mb "range" = some (.type "range")) (he:aG C lv N e ρ σ (.dat (.int M)) ρ₁ σ₁) (hlo:-(2 ^ 62)<=M) (hhi:M<2 ^ 62)
  (hn:autoParam (cA e=true) aR) (hq:autoParam (lv.q=true) aR) (hnm:autoParam (nZ tg=true) aR):gO C lv N tg (.Call (.Name "range" rp) [e] [] rpos) [] ρ σ (jC 0 M.toNat) ρ₁ σ₁:=by
 intro A env μ s Q E ok G F hQ
 refine GL ?_
 refine kK (pos:=rp) g hm hb A env μ s _ _ ok G F fun v μ0 s0 P0 e0=>?_
 obtain rfl:=e0
 rw [show backTo rpos (Fy [e] env)=[(false,eval e env)] by rw [a7 hn];rfl]
 refine PySem.callWith_type rfl (FS (FW (he A env μ0 s0 _ _ ok P0.good P0.fr fun nv μ1 s1 P1 ⟨as,r⟩=>Fs ?_)))
 cases r using RI with
 | int tN=>
  refine call_range_1 ?_;refine wpAny_pyIter_range (IsRange.new ..) (small_one (by decide) (by decide) hlo hhi) ?_
  have P01:=P0.trans P1;obtain ⟨P2,it⟩:=jl (tg:=tg) hnm (R:={cls:=.type "range",data:=.fields #[.int 0 s1.toks,.int M tN,.int 1 (s1.toks+1)]}) (M:=M) (c:=0) (tk:=s1.toks+1+1) (base:=s.heap.objs.size) P01.good P01.fr P01.kept.le hq (by rw [rangeSize_one];split<;>omega)
  rw [show M - 0=M by omega] at it
  exact hQ _ _ _ (P01.trans P2) it
theorem ph {tg e f:Expr} {rp rpos:Pos} {c M:Int} (g:bx N "range") (hm:C.mg "range" = none) (hb:C.mb "range" = some (.type "range")) (he:aG C lv N e ρ σ (.dat (.int c)) ρ₁ σ₁) (hf:aG C lv N f ρ₁ σ₁ (.dat (.int M)) ρ₂ σ₂)
  (hlo:-(2 ^ 62)<=M) (hhi:M<2 ^ 62) (hlo':-(2 ^ 62)<=c) (hhi':c<2 ^ 62)
  (hn:autoParam (cA e=true) aR) (hn':autoParam (cA f=true) aR) (hq:autoParam (lv.q=true) aR) (hnm:autoParam (nZ tg=true) aR):gO C lv N tg (.Call (.Name "range" rp) [e,f] [] rpos) [] ρ σ (jC c (M - c).toNat) ρ₂ σ₂:=by
 intro A env μ s Q E ok G F hQ
 refine GL ?_
 refine kK (pos:=rp) g hm hb A env μ s _ _ ok G F fun v μ0 s0 P0 e0=>?_
 obtain rfl:=e0
 rw [show backTo rpos (Fy [e,f] env)=[(false,eval e env),(false,eval f env)] by rw [a7 hn,a7 hn'];rfl]
 refine PySem.callWith_type rfl (FS (FW (he A env μ0 s0 _ _ ok P0.good P0.fr fun nv μ1 s1 P1 r=>FW (hf A env μ1 s1 _ _ ok P1.good P1.fr fun nv' μ2 s2 P2 ⟨as',r'⟩=>Fs ?_))))
 obtain ⟨as,r⟩:=P2.val P1.good P1.fr r
 cases r using RI with
 | int tN=>cases r' using RI with
 | int tN'=>
  refine call_range_2 ?_;refine wpAny_pyIter_range (IsRange.new ..) (small_one hlo' hhi' hlo hhi) ?_;have P01:=P0.trans (P1.trans P2);obtain ⟨P3,it⟩:=jl (tg:=tg) hnm (R:={cls:=.type "range",data:=.fields #[.int c tN,.int M tN',.int 1 s2.toks]}) (M:=M) (c:=c) (tk:=s2.toks+1) (base:=s.heap.objs.size) P01.good P01.fr P01.kept.le hq (by rw [rangeSize_one];split<;>omega)
  exact hQ _ _ _ (P01.trans P3) it
end
theorem bT:∀ (names:List (Str×Ee)) (n:Nat) (acc:List (Str×Addr)),GV n names acc=GV n names []++acc:=by
 intro names
 induction names with
 | nil=>exact fun zz zz=>rfl
 | cons x r ih=>
  intro n acc;obtain ⟨x,k⟩:=x;unfold GV
  split
  ·rw [ih (n+1) ((x,n) :: acc),ih (n+1) [(x,n)],FK];rfl
  ·exact ih n acc
theorem iT:∀ {names:List (Str×Ee)} {n:Nat} {x:Str},(x,Ee.cell)∈names->∃ c,(x,c)∈GV n names []:=by
 intro names
 induction names with
 | nil=>intro n x h;exact absurd h Fe
 | cons p r ih0=>
  obtain ⟨y,k⟩:=p;intro n x h;unfold GV
  rcases EV.mp h with e | h
  ·cases e
   rw [if_pos (by rfl),bT]
   exact ⟨n,EG.mpr (.inr (.head _))⟩
  ·split
   ·rw [bT]
    obtain ⟨c,hc⟩:=ih0 (n:=n+1) h;exact ⟨c,EG.mpr (.inl hc)⟩
   ·exact ih0 h
set_option tactic.hygienic true in
theorem dp {α:Type} {x:Str}:∀ {l:List (Str×α)} {c:α},(x,c)∈l->∃ d,l.lookup x=some d:=by
 intro l
 induction l with
 | nil=>intro c h;exact absurd h Fe
 | cons p l ih0=>
  obtain ⟨y,d⟩:=p;intro c h
  rw [GU]
  split
  ·exact ⟨_,rfl⟩
  ·rename_i ne
   rcases EV.mp h with e | h
   ·cases e;simp at ne
   ·exact ih0 h
theorem sJ {α:Type} {x:Str} {c:α}:∀ {l r:List (Str×α)},(∃ d,r.lookup x=some d)->∃ d,(l++r).lookup x=some d:=by
 intro l
 induction l with
 | nil=>intro _ h;exact h
 | cons p l ih0=>
  obtain ⟨y,d⟩:=p;intro r h
  rw [Eo,GU]
  split
  ·exact ⟨_,rfl⟩
  ·exact ih0 h
theorem oS:∀ (names:List (Str×Ee)) (h:Heap),h.objs.size<=(pushCells h names).objs.size:=by
 intro names
 induction names with
 | nil=>exact fun zz=>EK _
 | cons x r ih=>
  intro h;obtain ⟨_,kind⟩:=x;unfold pushCells
  split
  ·exact EH (by rw [EU];exact Ej _) (ih _)
  ·exact ih h
structure nX (names:aF) (closure:List (Str×Addr)) (μ:Mu) (h:Heap):Prop where
 cells:∀ p∈closure,p.2∈μ.hid/\p.2∉μ.foot/\∃ v,h.IsCell p.2 v
 apart:∀ p∈closure,∀ q∈closure,p.2=q.2->p.1=q.1
 free:∀ x,(x,Ee.free)∈names->∃ c,closure.lookup x=some c
theorem nX.nil {names:aF} {μ:Mu} {h:Heap} (hf:∀ p∈names,p.2≠.free):nX names [] μ h:=⟨jI,jI,fun x h=>absurd rfl (hf (x,.free) h)⟩
structure dc (N:aF):Prop where
 nodup:(N.map (·.1)).Nodup
 plain:∀ p∈N,(p.1==("__debug__" : Str))=false/\(p.1==("__classdict__" : Str))=false
noncomputable def cM (N:aF) (ρ:aO):Prop:=∀ P:aF->aO->Prop,P [] []->(∀ p N ρ,P N ρ->P (p :: N) (none :: ρ))->P N ρ
theorem cM.nil:cM [] []:=fun zz h zz=>h
theorem cM.cons {p:Str×Ee} {N:aF} {ρ:aO} (b:cM N ρ):cM (p :: N) (none :: ρ):=fun P h t=>t _ _ _ (b P h t)
theorem bl4 {p p1 p2 p3:Str×Ee} {N:aF} {ρ:aO} (b:cM N ρ):cM (p :: p1 :: p2 :: p3 :: N) (none :: none :: none :: none :: ρ):=.cons (.cons (.cons (.cons b)))
theorem cM.vars {env:Env} {m:Str->Option Value} {μ:Mu} {h:Heap} {N:aF} {ρ:aO} (b:cM N ρ):fE env m μ h N ρ:=b (fun N ρ=>fE env m μ h N ρ) trivial fun zz zz zz ih=>ih
section
variable {C:Cx} {lv:Lv} {N:aF} {ρ ρ₁ ρ₂ ρ₃ ρ':aO} {σ σ₁ σ₂ σ₃ σ':aC} {o:Out} {a b:AV} {A:Around} {env:Env} {μ μ':Mu} {s s':Shared}
noncomputable def dA (L:Addr) (names:aF):List Addr:=L :: (GV (L+1) names []).map (·.2)
noncomputable def bY (h:Heap) (cls:String) (names:aF):Heap:=pushCells (h.push {cls:=.type cls,data:=.dict #[]}) names
theorem ef {scope:Scope} {globals:Addr} {closure:List (Str×Addr)} {binds:List (Str×Value)} {qual:Str} {func:Option Addr} {code:Value} {around:Option Env} {builtins:Addr} {Q:Env->Shared->Prop} {E:Value->Shared->Prop}
  (h:∀ L',L'=newEnv scope s.heap.objs.size globals (GV (s.heap.objs.size+1) scope.names closure) qual func code around builtins->
   wpAny (model C.prog C.w) A (do
    for (name,v) in binds do La L' name v
    return L') Q E {s with heap:=bY s.heap (if around.isSome then "dict" else "frame") scope.names}) :
  wpAny (model C.prog C.w) A (newFunctionEnv scope globals closure binds qual func code around builtins) Q E s:=by
 simp only [newFunctionEnv]
 refine ED (wpAny_alloc (ED (wpAny_layCells _ (fun name kind cells=>by cases hkc:kind==Ee.cell<;>simp [hkc]) _ _ _ _ ?_)))
 have h':=h _ rfl
 simp only [EU]
 cases around<;>exact h'
theorem je {A':Around} {cls:String} {scope:Scope} {closure:List (Str×Addr)} {env':Env} (G:aX C lv A μ σ s) (ok:dc scope.names) (cl:nX scope.names closure μ s.heap) (hb:cM scope.names ρ)
  (e1:env'.locals=s.heap.objs.size) (e2:env'.cells=GV (s.heap.objs.size+1) scope.names closure) (e3:env'.globals=Go) (e4:env'.builtins=Hb) (e5:env'.scope.kind=.function)
  (hk:∀ p∈scope.names,env'.kindOf p.1=some p.2\/(p.2=.free/\env'.kindOf p.1=some .cell)) (hfe:∃ L,env'.frame=some L/\FA A' L) :
  aX C lv A (μ.hide (dA s.heap.objs.size scope.names)) σ {s with heap:=bY s.heap cls scope.names}/\aM A' scope.names env' (μ.hide (dA s.heap.objs.size scope.names)) ρ (bY s.heap cls scope.names) /\
   Ext μ (μ.hide (dA s.heap.objs.size scope.names)) s.heap.objs.size/\aL A0 NoW s {s with heap:=bY s.heap cls scope.names}:=by
 have okc:=JN scope.names (s.heap.push {cls:=.type cls,data:=.dict #[]}) (s.heap.objs.size+1) [] ⟨fun zz zz hm=>(nomatch hm),HQ.nil⟩ (by rw [EU];exact EK _)
 rw [EU] at okc
 have k:aL A0 NoW s {s with heap:=bY s.heap cls scope.names}:=ab (tk:=s.toks) (EH (by rw [EU];exact Ej _) (oS _ _)) fun b o e=>pushCells_keeps _ _ b o (EM _ e)
 have hns:(bY s.heap cls scope.names).Ns s.heap.objs.size fun zz=>none:=(Heap.Ns.new s.heap (.type cls)).keeps (pushCells_keeps _ _)
 have hnew:∀ b∈dA s.heap.objs.size scope.names,s.heap.objs.size<=b/\b<(bY s.heap cls scope.names).objs.size:=by
  intro b hb
  rcases EV.mp hb with rfl | hb
  ·exact ⟨EK _,hns.lt⟩
  ·obtain ⟨p,hp,rfl⟩:=EO.mp hb
   obtain ⟨hc,hl⟩:=okc.empty p.1 p.2 hp;exact ⟨G6 hl,hc.lt⟩
 have' x:Ext μ (μ.hide (dA s.heap.objs.size scope.names)) s.heap.objs.size:=fW fun b hb=>(hnew b hb).1
 have nf:∀ b,s.heap.objs.size<=b->b∉μ.foot:=fun b hb q=>absurd (G.lt _ (G.sim.foot _ q)) (E3.mpr hb)
 refine ⟨G.hide k hnew,⟨e5,e3,e4,ok.nodup,ok.plain,hk,?_,?_,?_,?_,?_,hfe,fun zz=>none,by rw [e1];exact hns,hb.vars⟩,x,k⟩
 ·rw [e1];exact EG.mpr (.inl (.head _))
 ·rw [e1];exact nf _ (EK _)
 ·rintro ⟨y,kd⟩ hp hkd
  rw [e2,bT]
  dsimp only at hkd ⊢
  rcases hkd with rfl | rfl
  ·obtain ⟨c,hc⟩:=iT (n:=s.heap.objs.size+1) hp
   exact dp (EG.mpr (.inl hc))
  ·exact sJ (c:=0) (cl.free _ hp)
 ·intro p hp
  rw [e2,bT] at hp
  rcases EG.mp hp with hp | hp
  ·obtain ⟨hc,hl⟩:=okc.empty p.1 p.2 hp
   refine ⟨EG.mpr (.inl (.tail _ (EO.mpr ⟨p,hp,rfl⟩))),nf _ (G6 hl),?_,none,hc⟩
   rw [e1]
   exact I4 hl
  ·obtain ⟨c1,c2,v,c3⟩:=cl.cells p hp
   exact ⟨EG.mpr (.inr c1),c2,by rw [e1];exact FG c3.lt,v,c3.keeps k.up⟩
 ·intro p hp q hq e
  rw [e2,bT] at hp hq
  rcases EG.mp hp with hp | hp<;>rcases EG.mp hq with hq | hq
  ·exact name_of_addr okc.apart (c:=p.2) hp (by rw [e];exact hq)
  ·have l1:=ltA (cl.cells q hq).2.2.choose_spec.lt
   have l2:=leA (okc.empty p.1 p.2 hp).2
   rw [e] at l2;omega
  ·have l1:=ltA (cl.cells p hp).2.2.choose_spec.lt
   have l2:=leA (okc.empty q.1 q.2 hq).2
   rw [e] at l1;omega
  ·exact cl.apart p hp q hq e
theorem nw {scope:Scope} {closure:List (Str×Addr)} {env':Env} (G:aX C lv A μ σ s) (nd:(scope.names.map (·.1)).Nodup) (e1:env'.locals=s.heap.objs.size) (e2:env'.cells=GV (s.heap.objs.size+1) scope.names closure) {l:List Addr} {b:Addr}
  (h:WS (μ.hide l) scope.names env' b):WC μ b\/s.heap.objs.size<=b:=by
 rcases h with h | rfl | ⟨x,hx,hl⟩
 ·exact .inl h
 ·exact .inr (by rw [e1];exact EK _)
 ·right
  have okc:=JN scope.names (s.heap.push {cls:=.type "dict",data:=.dict #[]}) (s.heap.objs.size+1) [] ⟨fun zz zz hm=>(nomatch hm),HQ.nil⟩ (by rw [EU];exact EK _)
  rw [EU] at okc
  rw [e2,bT] at hl
  obtain ⟨c,hc⟩:=iT (n:=s.heap.objs.size+1) hx;obtain ⟨d,hd⟩:=dp hc
  rw [List.lookup_append,hd] at hl
  cases hl
  exact G6 (okc.empty x _ (bG hd)).2
end
noncomputable def dE (μ:Mu) (h:Heap):List (Str×AV)->List (Str×Value)->Prop
 | [],[]=>True
 | (x,a) :: bs,(y,v) :: vs=>(x=y/\af μ h a v)/\dE μ h bs vs
 | _,_=>False
theorem dE.e0 {μ:Mu} {h:Heap} {vs:List (Str×Value)} (r:dE μ h [] vs):vs=[]:=by
 cases vs with
 | nil=>rfl
 | cons=>exact r.elim
theorem dE.e1 {μ:Mu} {h:Heap} {k:Str} {a:AV} {vs:List (Str×Value)} (r:dE μ h [(k,a)] vs):∃ w,vs=[(k,w)]/\af μ h a w:=by
 cases vs with
 | nil=>exact r.elim
 | cons w vs=>cases w with
  | mk y w=>exact ⟨w,by rw [r.2.e0,r.1.1,],r.1.2⟩
@[elab_as_elim] theorem dE.ind {μ:Mu} {h:Heap} {motive:List (Str×AV)->List (Str×Value)->Prop} {as:List (Str×AV)} {vs:List (Str×Value)} (r:dE μ h as vs) (h0:motive [] [])
  (h1:∀ x a v as vs,af μ h a v->motive as vs->motive ((x,a) :: as) ((x,v) :: vs)):motive as vs:=by
 induction as generalizing vs with
 | nil=>cases vs with
  | nil=>exact h0
  | cons _ _=>exact r.elim
 | cons p as ih=>
  obtain ⟨x,a⟩:=p
  cases vs with
  | nil=>exact r.elim
  | cons q vs=>
   obtain ⟨y,v⟩:=q;obtain ⟨⟨rfl,hv⟩,r⟩:=r;exact h1 _ _ _ _ _ hv (ih r)
section
variable {A:Around} {μ μ':Mu} {W:Addr->Prop} {s s':Shared} (x:Ext μ μ' s.heap.objs.size) (k:aL A W s s') (hW:∀ b,W b\/FA A b->b∈μ.hid\/s.heap.objs.size<=b)
include x k hW
theorem dE.mono {as:List (Str×AV)} {vs:List (Str×Value)} (r:dE μ s.heap as vs):dE μ' s'.heap as vs:=dE.ind r trivial fun zz zz zz zz zz hv ih=>⟨⟨rfl,af.mono x k hW hv⟩,ih⟩
end
theorem kn {μ:Mu} {h:Heap} {names:List Str} {as:List AV} {vs:List Value} (r:ay μ h as vs):dE μ h (names.zip as) (names.zip vs):=by
 refine ay.ind (motive:=fun as vs=>∀ names:List Str,dE μ h (names.zip as) (names.zip vs)) r (fun names=>?_) (fun a v as vs hv zz ih names=>?_) names
 ·rw [FX,FX,];trivial
 ·cases names with
  | nil=>trivial
  | cons x names=>exact ⟨⟨rfl,hv⟩,ih names⟩
theorem ke {μ:Mu} {h:Heap} {as bs:List (Str×AV)} {vs ws:List (Str×Value)} (r:dE μ h as vs) (q:dE μ h bs ws):dE μ h (as++bs) (vs++ws):=dE.ind r q fun zz zz zz zz zz hv ih=>⟨⟨rfl,hv⟩,ih⟩
noncomputable def aP (C:Cx) (m:Nat) (fz:List Nat) (f:Value) (as:List AV) (ks:List (Str×AV)) (σ:aC) (a:AV) (σ':aC):Prop:=
 ∀ (A:Around) (μ:Mu) (s:Shared) (vs:List Value) (kvs:List (Str×Value)) (R:Result->Shared->Prop),C.Ok->aX C ⟨true,m,fz⟩ A μ σ s->ay μ s.heap as vs->dE μ s.heap ks kvs->
  (∀ v μ' s',aX C ⟨true,m,fz⟩ A μ' σ' s'->Ext μ μ' s.heap.objs.size->aL A (WC μ) s s'->af μ' s'.heap a v->R (.ok (.ret v)) s')->GR (model C.prog C.w) A (.call f ⟨vs,kvs⟩) R s
noncomputable def bQ (C:Cx) (fd:Hr) (as:List AV) (ks bs:List (Str×AV)):Prop:=
 ∀ (A:Around) (μ:Mu) (s:Shared) (vs:List Value) (kvs:List (Str×Value)) (Q:List (Str×Value)->Shared->Prop) (E:Value->Shared->Prop),C.K.In s.heap->(∀ b∈μ.hid,b<s.heap.objs.size)->ay μ s.heap as vs->dE μ s.heap ks kvs->
  (∀ binds s',aL A0 NoW s s'->dE μ s'.heap bs binds->Q binds s')->wpAny (model C.prog C.w) A (Jz fd ⟨vs,kvs⟩) Q E s
theorem bQ.of_peek {C:Cx} {fd:Hr} {as:List AV} {ks bs:List (Str×AV)} (h:∀ μ h vs kvs,ay μ h as vs->dE μ h ks kvs->∃ binds,(∀ S,peek C.K S (Jz fd ⟨vs,kvs⟩)=some binds)/\dE μ h bs binds):bQ C fd as ks bs:=by
 intro A μ s vs kvs Q E X _ r rk hQ
 obtain ⟨binds,hp,hr⟩:=h μ s.heap vs kvs r rk
 exact kp_binds X hp _ _ _ _ (hQ binds s (aL.refl _ _ _) hr)
theorem bQ.plain {C:Cx} {fd:Hr} {as:List AV} (names:List Str) (dflt:List (Str×Value)) (dbs:List (Str×AV)) (hp:∀ vs:List Value,vs.length=as.length->∀ S,peek C.K S (Jz fd ⟨vs,[]⟩)=some (names.zip vs++dflt))
  (hd:∀ μ h,dE μ h dbs dflt):bQ C fd as [] (names.zip as++dbs):=.of_peek fun μ h vs kvs r rk=>by
 cases kvs with
 | nil=>exact ⟨_,hp vs (bP r),ke (kn r) (hd μ h)⟩
 | cons _ _=>exact rk.elim
theorem bQ.args {C:Cx} {fd:Hr} {as:List AV} (hp:∀ vs:List Value,vs.length=as.length->∀ S,peek C.K S (Jz fd ⟨vs,[]⟩)=some ((fd.params.args.map (·.arg)).zip vs)):bQ C fd as [] ((fd.params.args.map (·.arg)).zip as):=by
 have:=bQ.plain (C:=C) (as:=as) (fd.params.args.map (·.arg)) [] [] (fun vs hl S=>by rw [FH,];exact hp vs hl S) fun zz zz=>trivial
 rwa [FH] at this
noncomputable def cQ (N:aF) (ρ:aO) (bs:List (Str×AV)) (ρ':aO):Prop:=∀ P:aO->List (Str×AV)->aO->Prop,(∀ ρ,P ρ [] ρ)->(∀ ρ x k a ρ₁ bs ρ₂,bS N ρ x k a ρ₁->k=.local\/k=.cell->P ρ₁ bs ρ₂->P ρ ((x,a) :: bs) ρ₂)->P ρ bs ρ'
theorem cQ.nil {N:aF} {ρ:aO}:cQ N ρ [] ρ:=fun zz h zz=>h _
theorem cQ.cons {N:aF} {ρ:aO} {x:Str} {k:Ee} {a:AV} {ρ₁:aO} {bs:List (Str×AV)} {ρ₂:aO} (l:bS N ρ x k a ρ₁) (hk:k=.local\/k=.cell) (s:cQ N ρ₁ bs ρ₂):cQ N ρ ((x,a) :: bs) ρ₂:=fun P h t=>t _ _ _ _ _ _ _ l hk (s P h t)
section
variable {C:Cx} {lv:Lv} {N:aF} {ρ ρ₁ ρ₂ ρ₃ ρ':aO} {σ σ₁ σ₂ σ₃ σ':aC} {o:Out} {a b:AV} {A:Around} {env:Env} {μ μ':Mu} {s s':Shared}
theorem mR {bs:List (Str×AV)} (st:cQ N ρ bs ρ'):∀ {A':Around} {binds:List (Str×Value)} {μ:Mu} {s:Shared} {Q:PUnit->Shared->Prop} {E:Value->Shared->Prop},aX C lv A μ σ s->aM A N env μ ρ s.heap->dE μ s.heap bs binds->
  (∀ s',aS C lv A N env μ s ρ' σ μ s'->Q ⟨⟩ s')->wpAny (model C.prog C.w) A' (forIn binds PUnit.unit fun (x:Str×Value) _=>do La env x.1 x.2;pure (ForInStep.yield PUnit.unit)) Q E s:=by
 refine st (fun ρ bs ρ'=>∀ {A':Around} {binds:List (Str×Value)} {μ:Mu} {s:Shared} {Q:PUnit->Shared->Prop} {E:Value->Shared->Prop},aX C lv A μ σ s->aM A N env μ ρ s.heap->dE μ s.heap bs binds->(∀ s',aS C lv A N env μ s ρ' σ μ s'->Q ⟨⟩ s')->wpAny (model C.prog C.w) A' (forIn binds PUnit.unit fun (x:Str×Value) _=>do La env x.1 x.2;pure (ForInStep.yield PUnit.unit)) Q E s) ?nil ?cons
 case nil=>
  intro _ A' binds μ s Q E G F r h
  cases binds with
  | nil=>rw [I5,];exact EI (h s (aS.refl G F))
  | cons _ _=>exact r.elim
 case cons=>
  intro ρ x k a ρ₁ bs ρ₂ l hk ih A' binds μ s Q E G F r h
  cases binds with
  | nil=>exact r.elim
  | cons p binds=>
   obtain ⟨y,v⟩:=p;obtain ⟨⟨rfl,rv⟩,r⟩:=r
   rw [KV,]
   refine ED (ED (gD G F l hk rv fun s1 P1=>EI ?_))
   exact ih P1.good P1.fr (r.mono P1.ext P1.kept (G.fw fun b hb=>.inl (dC G.sim F b hb))) fun s2 P2=>h s2 (P1.trans P2)
theorem aX.around {lv':Lv} {A':Around} (G:aX C lv A μ σ s) (hq:lv'.q=true->A'.handled=none) (hf:lv'.fz=lv.fz) (h1:A'.depth+4 * lv'.n+20<recursionLimit) (h2:A'.units+16 * lv'.n+200<cLine) (h3:Frs A' μ s.heap):aX C lv' A' μ σ s:=
 ⟨hq,G.frz.trans hf.symm,h1,h2,G.top,G.base,G.low,G.lt,G.sim,h3⟩
theorem Frs.deeper {A1:Around} (f:Frs A μ s.heap) (F:aM A1 N env μ ρ s.heap) (hf:env.frame=some env.locals) (hk:env.scope.kind=.function):Frs (A.deeper env) μ s.heap:=by
 obtain ⟨l,e,H⟩:=f.all
 refine ⟨env :: l,by show A.frames.map _=_;rw [e,];rfl,fun e' hm=>?_⟩
 rcases EV.mp hm with rfl | hm
 ·obtain ⟨m,⟨o,es,n,ho,hd,_⟩,_⟩:=F.vals
  exact ⟨by rw [hk,];decide,_,hf,F.hidL,F.freeL,o,es,n,ho,hd⟩
 ·exact H e' hm
theorem Frs.outer {h:Heap} (f:Frs (A.deeper env) μ h) (f0:∃ l,A.frames=some l):Frs A μ h:=by
 obtain ⟨l,e,H⟩:=f.all
 obtain ⟨l0,e0⟩:=f0
 have e':A.frames.map (env :: ·)=some l:=e
 rw [e0] at e'
 cases e'
 exact ⟨l0,e0,fun e' hm=>H e' (.tail _ hm)⟩
theorem FA.deeper {b:Addr} (hf:env.frame=some env.locals) (h:FA (A.deeper env) b):FA A b\/b=env.locals:=by
 obtain ⟨l,e,e',hm,hb⟩:=h
 have e'':A.frames.map (env :: ·)=some l:=e
 cases hA:A.frames with
 | none=>rw [hA] at e'';cases e''
 | some l0=>
  rw [hA] at e''
  cases e''
  rcases EV.mp hm with rfl | hm
  ·rw [hf] at hb;cases hb;exact .inr rfl
  ·exact .inl ⟨l0,hA,e',hm,hb⟩
inductive Ret:Out->AV->Prop
 | ret {x}:Ret (.ret x) x
 | nxt:Ret .nxt (.dat .none)
theorem mS {m:Nat} {fz:List Nat} {f:Addr} {of:Obj} {fd:Hr} {body:List Stmt} {as:List AV} {ks bs:List (Str×AV)} {out:Out} (hK:C.K.lookup f=some of) (hd:of.data=.func fd) (hbody:fd.body=.stmts body) (hcd:codeIn C.K fd.code fd.qualname=true)
  (hcl:fd.closure=[]) (hg:fd.globals=Go) (hbl:fd.builtins=Hb) (hco:fd.scope.isCoroutine=false) (hgen:fd.scope.isGenerator=false) (hkd:fd.scope.kind=.function) (ok:dc fd.scope.names) (hfree:∀ p∈fd.scope.names,p.2≠.free)
  (hb:bQ C fd as ks bs) (bl:cM fd.scope.names ρ) (st:cQ fd.scope.names ρ bs ρ₁) (h:∀ (A:Around) (env:Env) (μ:Mu) (s:Shared) (Q:Flow->Shared->Prop) (E:Value->Shared->Prop),env.code=fd.code->C.Ok->aX C ⟨true,m,fz⟩ A μ σ s->aM A fd.scope.names env μ ρ₁ s.heap->
   (∀ f μ' s',aS C ⟨true,m,fz⟩ A fd.scope.names env μ s ρ₂ σ₂ μ' s'->oP μ' s'.heap out f->Q f s')->wpAny (model C.prog C.w) A (execs body env) Q E s) (hr:Ret out a):aP C (m+1) fz (.ref f) as ks σ a σ₂:=by
 intro A μ s vs kvs R okC G rv rk hR
 have X:=G.inK okC
 have hroom:=G.room
 have hunits:=G.units
 dsimp only at hroom hunits
 refine K2 (by omega) (X _ _ hK) hd hco hgen hbody (codeRec_of X hcd) (hb A.in1 μ s vs kvs _ _ X G.lt rv rk fun binds s1 k1 rb=>?_)
 have G1:aX C ⟨true,m+1,fz⟩ A μ σ s1:=G.grow k1
 have G1':aX C ⟨true,m,fz⟩ A.in1 μ σ s1:=G1.around (fun zz=>G.quiet rfl) rfl (by show A.depth+_+_<_;dsimp only;omega) (by show A.units+1+_+_<_;dsimp only;omega) ⟨G1.frs.all⟩
 refine ef fun env he=>?_
 rw [hcl,hg,hbl] at he
 have e1:env.locals=s1.heap.objs.size:=by rw [he,];rfl
 have e3:env.frame=some env.locals:=by rw [he,];rfl
 have e4:env.scope.kind=.function:=by rw [he,];exact hkd
 have e2:env.cells=GV (s1.heap.objs.size+1) fd.scope.names []:=by rw [he,];rfl
 have' hkn:∀ p∈fd.scope.names,env.kindOf p.1=some p.2:=by
  intro p hp
  rw [he,]
  show fd.scope.names.lookup p.1=some p.2
  have nd:=ok.nodup;clear he e1 e2 st bl h hb hcl hg hbl hfree;generalize fd.scope.names=l at hp nd
  induction l with
  | nil=>cases hp
  | cons q l ih=>
   obtain ⟨y,ky⟩:=q
   rw [E9,GI] at nd
   rw [GU,]
   rcases EV.mp hp with rfl | hp
   ·simp
   ·have:(p.1==y)=false:=by
     refine beq_eq_false_iff_ne.mpr fun q=>nd.1 (EO.mpr ⟨p,hp,q⟩)
    rw [this,]
    exact ih hp nd.2
 have' hfe:∃ L,env.frame=some L/\FA (A.deeper env) L:=by
  obtain ⟨l,e,_⟩:=G.frs.all;exact ⟨_,e3,env :: l,by show A.frames.map _=_;rw [e,];rfl,env,.head _,e3⟩
 obtain ⟨G2,F2,x2,k2⟩:=je (A':=A.deeper env) (cls := "frame") (env':=env) G1' ok (.nil hfree) bl e1 e2 (by rw [he,];rfl) (by rw [he,];rfl) (by rw [he,];exact hkd) (fun p hp=>.inl (hkn p hp)) hfe
 have' rb2:dE (μ.hide (dA s1.heap.objs.size fd.scope.names)) (bY s1.heap "frame" fd.scope.names) bs binds:=rb.mono x2 k2 noW
 have G3:aX C ⟨true,m,fz⟩ (A.deeper env) (μ.hide (dA s1.heap.objs.size fd.scope.names)) σ {s1 with heap:=bY s1.heap "frame" fd.scope.names}:=G2.around (fun zz=>G.quiet rfl) rfl (by show A.depth+1+_+_<_;dsimp only;omega) (by show A.units+3+_+_<_;dsimp only;omega) (Frs.deeper (A:=A) ⟨G2.frs.all⟩ F2 e3 e4)
 refine ED (mR st G3 F2 rb2 fun s3 P3=>EI ⟨okC.lim.keeps P3.good.base,codeAny_func ?_⟩)
 refine h (A.deeper env) env _ s3 _ _ (by rw [he,];rfl) okC P3.good P3.fr fun fl μ4 s4 P4 r4=>?_
 have kept:aL A (WC μ) s s4:=by
  have' a1:aL A (WC μ) s s1:=k1.lift;have' a2:aL A (WC μ) s {s1 with heap:=bY s1.heap "frame" fd.scope.names}:=a1.trans (k2.lift (W:=NoW)) fun zz h=>h.elim
  have w:∀ b,WS (μ.hide (dA s1.heap.objs.size fd.scope.names)) fd.scope.names env b->WC μ b\/s.heap.objs.size<=b:=fun b hb=>(nw G1 ok.nodup e1 e2 hb).imp id fun q=>EH k1.le q
  have' k4:aL A (WS (μ.hide (dA s1.heap.objs.size fd.scope.names)) fd.scope.names env) s3 s4:=P4.kept.frames fun b hb=>(FA.deeper e3 hb).imp id fun q=>.inl (.inr (.inl q))
  exact (a2.trans (P3.kept.frames (A':=A) fun b hb=>(FA.deeper e3 hb).imp id fun q=>.inl (.inr (.inl q))) w).trans k4 w
 have G4:aX C ⟨true,m+1,fz⟩ A μ4 σ₂ s4:=P4.good.around G.quiet rfl G.room G.units (P4.good.frs.outer (let ⟨l,e,_⟩:=G.frs.all;⟨l,e⟩))
 have x4:Ext μ μ4 s.heap.objs.size:=(x2.trans (P3.ext.trans P4.ext P3.kept.le) k2.le).trans (Ext.refl _ _) (EK _) |> fun x=>⟨let ⟨t,e,f⟩:=x.grow;⟨t,e,fun p hp b hb=>EH k1.le (f p hp b hb)⟩,x.sub,fun b hb=>(x.new b hb).imp id fun q=>EH k1.le q⟩
 cases hr with
 | ret=>obtain ⟨v,rfl,r⟩:=r4;exact hR v μ4 s4 G4 x4 kept r
 | nxt=>obtain rfl:=r4;exact hR .none μ4 s4 G4 x4 kept ⟨[],.none⟩
theorem ou {m:Nat} {fz:List Nat} {f:Addr} {of:Obj} {fd:Hr} {body:List Stmt} {as:List AV} {ks bs:List (Str×AV)} {out:Out} (hK:C.K.lookup f=some of) (hd:of.data=.func fd) (hbody:fd.body=.stmts body) (hcd:codeIn C.K fd.code fd.qualname=true)
  (hcl:fd.closure=[]) (hg:fd.globals=Go) (hbl:fd.builtins=Hb) (hco:fd.scope.isCoroutine=false) (hgen:fd.scope.isGenerator=false) (hkd:fd.scope.kind=.function) (ok:dc fd.scope.names) (hfree:∀ p∈fd.scope.names,p.2≠.free)
  (hb:bQ C fd as ks bs) (bl:cM fd.scope.names ρ) (st:cQ fd.scope.names ρ bs ρ₁) (h:aw C ⟨true,m,fz⟩ fd.scope.names body ρ₁ σ out ρ₂ σ₂) (hr:Ret out a):aP C (m+1) fz (.ref f) as ks σ a σ₂:=by
 exact mS hK hd hbody hcd hcl hg hbl hco hgen hkd ok hfree hb bl st (fun A env μ s Q E zz ok G F hQ=>h A env μ s Q E ok G F hQ) hr
end
section
variable {C:Cx} {lv:Lv} {N:aF} {ρ ρ₁ ρ₂ ρ₃ ρ':aO} {σ σ₁ σ₂ σ₃ σ':aC} {o:Out} {a b:AV} {A:Around} {env:Env} {μ μ':Mu} {s s':Shared}
structure Mid (μ μt μ':Mu):Prop where
 objs:μt.objs=μ.objs
 fz:μt.fz=μ.fz
 sup:∀ b∈μ.hid,b∈μt.hid
 sub:∀ b∈μt.hid,b∈μ'.hid
variable {μt:Mu}
theorem Mid.self {n:Nat} (x:Ext μ μ' n):Mid μ μ μ':=⟨rfl,rfl,fun zz h=>h,x.sub⟩
theorem af.back {n:Nat} {h h':Heap} {v v':Value} (x:Ext μ μ' n) (t:Mid μ μt μ') (r₀:af μ h a v) (r:af μ' h' a v'):af μt h' a v':=by
 cases a with
 | dat d=>obtain ⟨as,r⟩:=r;exact ⟨as,PyProof.Rows.Reads.keeps (hU t.sub) r⟩
 | ref i=>
  obtain ⟨p,e,q⟩:=r;obtain ⟨p₀,e₀,_⟩:=r₀
  rw [x.get e₀] at e
  cases e
  exact ⟨_,t.objs▸e₀,q⟩
 | con c=>exact r
theorem ay.back {n:Nat} {h h':Heap} (x:Ext μ μ' n) (t:Mid μ μt μ') {as:List AV} {vs vs':List Value} (r₀:ay μ h as vs):ay μ' h' as vs'->ay μt h' as vs':=by
 refine ay.ind (motive:=fun as zz=>∀ vs',ay μ' h' as vs'->ay μt h' as vs') r₀ (fun vs' r=>?_) (fun a v as vs hv zz ih vs' r=>?_) vs'
 ·cases vs' with
  | nil=>trivial
  | cons _ _=>exact r.elim
 ·cases vs' with
  | nil=>exact r.elim
  | cons _ _=>exact ⟨af.back x t hv r.1,ih _ r.2⟩
theorem cX.back {n:Nat} {P:Params} {h h':Heap} (x:Ext μ μ' n) (t:Mid μ μt μ') {as:List (Str×AV)} {vs vs':List GT} (r₀:cX P μ h as vs):cX P μ' h' as vs'->cX P μt h' as vs':=by
 refine cX.ind (motive:=fun as zz=>∀ vs',cX P μ' h' as vs'->cX P μt h' as vs') r₀ (fun vs' r=>?_) (fun y a e as es hv zz ih vs' r=>?_) vs'
 ·cases vs' with
  | nil=>trivial
  | cons _ _=>exact r.elim
 ·cases vs' with
  | nil=>exact r.elim
  | cons _ _=>exact ⟨⟨r.1.1,r.1.2.1,af.back x t hv.2.2 r.1.2.2⟩,ih _ r.2⟩
theorem eY.back {n:Nat} {h h':Heap} (x:Ext μ μ' n) (t:Mid μ μt μ') {a:Option AV} {v v':Option Value} (r₀:eY μ h a v) (r:eY μ' h' a v'):eY μt h' a v':=by
 cases a with
 | none=>cases v' with
  | none=>exact trivial
  | some _=>exact r.elim
 | some _=>cases v with
  | none=>exact r₀.elim
  | some _=>cases v' with
   | none=>exact r.elim
   | some _=>exact af.back x t r₀ r
theorem cq.back {n:Nat} {h h':Heap} (x:Ext μ μ' n) (t:Mid μ μt μ') {as:List (Option AV)} {vs vs':List (Option Value)} (r₀:cq μ h as vs):cq μ' h' as vs'->cq μt h' as vs':=by
 refine cq.ind (motive:=fun as zz=>∀ vs',cq μ' h' as vs'->cq μt h' as vs') r₀ (fun vs' r=>?_) (fun a v as vs hv zz ih vs' r=>?_) vs'
 ·cases vs' with
  | nil=>trivial
  | cons _ _=>exact r.elim
 ·cases vs' with
  | nil=>exact r.elim
  | cons _ _=>exact ⟨eY.back x t hv r.1,ih _ r.2⟩
theorem cF.back {n:Nat} {h h':Heap} (x:Ext μ μ' n) (t:Mid μ μt μ') {as:List (Int×AV)} {vs vs':List (Int×Value)} (r₀:cF μ h as vs):cF μ' h' as vs'->cF μt h' as vs':=by
 refine cF.ind (motive:=fun as zz=>∀ vs',cF μ' h' as vs'->cF μt h' as vs') r₀ (fun vs' r=>?_) (fun k a v as vs hv ih vs' r=>?_) vs'
 ·cases vs' with
  | nil=>trivial
  | cons _ _=>exact r.elim
 ·cases vs' with
  | nil=>exact r.elim
  | cons _ _=>exact ⟨⟨r.1.1,af.back x t hv r.1.2⟩,ih _ r.2⟩
theorem ek.back {n:Nat} {h h':Heap} {p:Addr×List Addr} {ob:AO} (x:Ext μ μ' n) (t:Mid μ μt μ') (r₀:ek C μ h p ob) (r:ek C μ' h' p ob):ek C μt h' p ob:=by
 cases ob with
 | list xs=>obtain ⟨_,_,_,r₀⟩:=r₀;obtain ⟨e,vs,l,r⟩:=r;exact ⟨e,vs,l,r₀.back x t r⟩
 | inst c xs=>obtain ⟨_,_,_,_,_,_,_,r₀⟩:=r₀;obtain ⟨dx,es,n,e,ne,o1,o2,r⟩:=r;exact ⟨dx,es,n,e,ne,o1,o2,r₀.back x t r⟩
 | slot c xs=>obtain ⟨_,_,_,_,_,_,r₀⟩:=r₀;obtain ⟨vs,dx,e,ne,o1,o2,r⟩:=r;exact ⟨vs,dx,e,ne,o1,o2,r₀.back x t r⟩
 | dict xs=>obtain ⟨_,_,_,r₀⟩:=r₀;obtain ⟨e,kvs,d,r⟩:=r;exact ⟨e,kvs,d,r₀.back x t r⟩
 | set xs=>exact r
 | iter l k=>obtain ⟨_,q₀,hq₀,_⟩:=r₀;obtain ⟨e,q,hq,r⟩:=r;rw [x.get hq₀] at hq;cases hq;exact ⟨e,_,t.objs▸hq₀,r⟩
 | next l=>obtain ⟨_,q₀,hq₀,_⟩:=r₀;obtain ⟨e,q,hq,r⟩:=r;rw [x.get hq₀] at hq;cases hq;exact ⟨e,_,t.objs▸hq₀,r⟩
 | deq=>exact r
 | sdict xs=>exact r
 | raw o=>exact r
 | code a=>exact r
theorem aX.forget {t:aC} {W:Addr->Prop} (G:aX C lv A μ σ s) (x:Ext μ μ' s.heap.objs.size) (m:Mid μ μt μ') (k:aL A W s s') (G':aX C lv A μ' (σ++t) s'):aX C lv A μt σ s':=by
 have hf:μt.foot=μ.foot:=by unfold Mu.foot;rw [m.objs]
 refine ⟨G.quiet,m.fz.trans G.frz,G.room,G.units,G'.top,G'.base,fun b hb=>G'.low b (m.sub b hb),fun b hb=>G'.lt b (m.sub b hb),⟨by rw [m.objs];exact G.sim.len,fun i p ob hp ho=>?_,fun b hb=>m.sup b (G.sim.foot b (hf▸hb)),by rw [m.objs];exact G.sim.apart,by rw [m.objs];exact G.sim.self⟩,?frs⟩
 case frs=>
  obtain ⟨l,e,Hl⟩:=G.frs.all;refine ⟨l,e,fun env' hm=>?_⟩
  obtain ⟨a,L,hL,b1,b2,_⟩:=Hl env' hm;exact ⟨a,L,hL,m.sup _ b1,hf▸b2,(G'.frs.fa ⟨l,e,env',hm,hL⟩).2.2⟩
 rw [m.objs] at hp
 have' hi:i<σ.length:=(EL.mp ho).1
 exact ek.back x m (G.sim.rep i p ob hp ho) (G'.sim.rep i p ob (x.get hp) (by rw [Eg hi];exact ho))
end
section
variable {C:Cx} {lv:Lv} {σ:aC} {A:Around} {μ:Mu} {s:Shared}
theorem aX.adopt {D:Addr} {ob:AO} (G:aX C lv A μ σ s) (hD:D∈μ.hid) (hf:D∉μ.foot) (hfa:¬ FA A D) (h:ek C {μ with objs:=μ.objs++[(D,[D])]} s.heap (D,[D]) ob):aX C lv A {μ with objs:=μ.objs++[(D,[D])]} (σ++[ob]) s:=by
 have hfoot:∀ b,b∈Mu.foot {μ with objs:=μ.objs++[(D,[D])]}↔b∈μ.foot\/b=D:=fun b=>by simp [Mu.foot]
 have' x:Ext μ {μ with objs:=μ.objs++[(D,[D])]} 0:=⟨⟨_,rfl,fun zz zz zz zz=>En _⟩,fun zz h=>h,fun zz h=>.inl h⟩
 refine ⟨G.quiet,G.frz,G.room,G.units,G.top,G.base,G.low,G.lt,⟨by simp [G.sim.len],fun i p o' hp ho=>?_,fun b hb=>?_,?_,fun p hp=>?_⟩,?_⟩
 ·by_cases hi:i<σ.length
  ·have hi':i<μ.objs.length:=by rw [G.sim.len];exact hi
   rw [Eg hi] at ho
   rw [Eg hi'] at hp
   exact (G.sim.rep i p o' hp ho).move ⟨fun zz zz e=>x.get e,fun r=>r⟩ fun zz zz zz e=>e
  ·have' e1:i=σ.length:=by
    have:=(EL.mp ho).1
    simp at this;omega
   subst e1
   rw [<- G.sim.len,EY] at hp
   rw [EY] at ho
   cases ho;cases hp
   exact h
 ·rcases (hfoot b).mp hb with q | q
  ·exact G.sim.foot b q
  ·exact q▸hD
 ·refine Hp.mpr ⟨G.sim.apart,Gu _ _,fun p hp q hq b hb hb'=>?_⟩
  rw [EJ.mp hq] at hb'
  rw [EJ.mp hb'] at hb
  exact hf (aj hp hb)
 ·rcases EG.mp hp with q | q
  ·exact G.sim.self p q
  ·rw [EJ.mp q];exact .head _
 ·obtain ⟨l,e,Hl⟩:=G.frs.all
  refine ⟨l,e,fun env' hm=>?_⟩
  obtain ⟨a,L,hL,b1,b2,r⟩:=Hl env' hm;refine ⟨a,L,hL,b1,fun q=>?_,r⟩
  rcases (hfoot L).mp q with q | q
  ·exact b2 q
  ·exact hfa ⟨l,e,env',hm,q▸hL⟩
end
noncomputable def Frz (σ:aC) (k:Nat) (a:AV) (d:PyData):Prop:=∀ P:AV->PyData->Prop,(∀ d,P (.dat d) d)->
 (∀ i xs ds,k<=i->σ[i]? = some (.list xs)->xs.length=ds.length->(∀ (j:Nat) x d,xs[j]? = some x->ds[j]? = some d->P x d)->P (.ref i) (.list ds))->P a d
theorem Frz.dat {σ:aC} {k:Nat} {d:PyData}:Frz σ k (.dat d) d:=fun zz h zz=>h _
theorem Frz.list {σ:aC} {k i:Nat} {xs:List AV} {ds:List PyData} (h1:k<=i) (h2:σ[i]? = some (.list xs)) (h3:xs.length=ds.length) (h4:∀ (j:Nat) x d,xs[j]? = some x->ds[j]? = some d->Frz σ k x d):Frz σ k (.ref i) (.list ds):=
 fun P a b=>b _ _ _ h1 h2 h3 fun j x d e1 e2=>h4 j x d e1 e2 P a b
theorem Frz.dats {σ:aC} {k i:Nat} {ds:List PyData} (hk:k<=i) (h:σ[i]? = some (.list (ds.map .dat))):Frz σ k (.ref i) (.list ds):=
 .list hk h (by simp) fun j x d hx hd=>by
  obtain ⟨d',hd',rfl⟩:=kP hx
  rw [hd] at hd';cases hd'
  exact .dat
section
variable {C:Cx} {lv:Lv} {N:aF} {ρ ρ₁ ρ₂ ρ₃ ρ':aO} {σ σ₁ σ₂ σ₃ σ':aC} {o:Out} {a b:AV} {A:Around} {env:Env} {μ μ':Mu} {s s':Shared}
theorem gc {h:Heap} {vs:List Value} {ds:List PyData} (e:vs.length=ds.length) (f:∀ (j:Nat) v d,vs[j]? = some v->ds[j]? = some d->∃ bs,Reads h v d bs):∃ bs,FZ h vs ds bs:=by
 induction vs generalizing ds with
 | nil=>cases ds with
  | nil=>exact ⟨_,.nil⟩
  | cons _ _=>cases e
 | cons v vs ih=>cases ds with
  | nil=>cases e
  | cons d ds=>
   obtain ⟨_,r⟩:=f 0 v d rfl rfl;obtain ⟨_,t⟩:=ih (ds:=ds) (K5.inj e) fun j v d h1 h2=>f (j+1) v d h1 h2
   exact ⟨_,.cons r t⟩
theorem Frz.reads {σ':aC} {n:Nat} {d:PyData} (x:Ext μ μ' n) (hn:∀ b∈μ.hid,b<n) (S:Sim C μ' σ' s'.heap) (f:Frz σ' μ.objs.length a d):∀ {v:Value},af μ' s'.heap a v->af μ s'.heap (.dat d) v:=by
 refine f (fun a d=>∀ {v:Value},af μ' s'.heap a v->af μ s'.heap (.dat d) v) ?c1 ?c2
 case c1=>intro d v r;obtain ⟨as,r⟩:=r;exact ⟨as,PyProof.Rows.Reads.keeps (hU x.sub) r⟩
 case c2=>
  intro i xs ds hk hx hl ih v r;obtain ⟨p,hp,rfl⟩:=r;obtain ⟨e1,vs,hpl,hr⟩:=S.rep i p _ hp hx;obtain ⟨m,ho⟩:=hpl;have hv:p.1∉μ.hid:=fun hm=>by
   obtain ⟨t,e,g⟩:=x.grow;have hp':=hp
   rw [e,E2 hk] at hp'
   exact absurd (hn _ hm) (E3.mpr (g p (EN hp') _ (by rw [e1];exact .head _)))
  obtain ⟨bs,ra⟩:=gc (h:=cL μ.hid s'.heap) (vs:=vs.toList) (ds:=ds) (by rw [bP hr,hl]) fun j v d hv hd=>by
   have hlt:j<xs.length:=by rw [hl];exact (EL.mp hd).1
   exact ih j xs[j] d (by simp [hlt]) hd (e8 hr j v xs[j] hv (by simp [hlt]))
  exact ⟨_,.list (Fc _ ho hv) rfl rfl ra⟩
theorem aP.pure {m:Nat} {fz:List Nat} {f:Value} {as:List AV} {ks:List (Str×AV)} {t:aC} {d:PyData} (h:aP C m fz f as ks σ a (σ++t)) (hf:Frz (σ++t) σ.length a d):aP C m fz f as ks σ (.dat d) σ:=by
 intro A μ s vs kvs R ok G rv rk hR
 refine h A μ s vs kvs R ok G rv rk fun v μ' s' G' x k r=>?_
 exact hR v μ s' (G.forget x (Mid.self x) k G') (Ext.refl _ _) k (Frz.reads x G.lt G'.sim (by rw [G.sim.len];exact hf) r)
theorem aP.drop {m:Nat} {fz:List Nat} {f:Value} {as:List AV} {ks:List (Str×AV)} {t:aC} {d:PyData} (h:aP C m fz f as ks σ (.dat d) (σ++t)):aP C m fz f as ks σ (.dat d) σ:=h.pure .dat
theorem aS.call {m:Nat} {fz:List Nat} (hfz:fz=lv.fz) (G:aX C lv A μ σ s) (F:aM A N env μ ρ s.heap) (G':aX C ⟨true,m,fz⟩ A μ' σ' s') (x:Ext μ μ' s.heap.objs.size) (k:aL A (WC μ) s s'):aS C lv A N env μ s ρ σ' μ' s':=
 ⟨G.frz,G'.around G.quiet hfz.symm G.room G.units G'.frs,F.ext x k (G.fw fun b hb=>.inl (G.sim.foot b (WC.foot hb))) (fun hb=>F.freeL (WC.foot hb)) (fun p hp hb=>(F.cells p hp).2.1 (WC.foot hb)),x,k.mono fun b hb=>.inl (.inl hb)⟩
theorem i0 {m:Nat} {f:Value} {as:List AV} {ks:List (Str×AV)} {vs:List Value} {kvs:List (Str×Value)} {Q:Value->Shared->Prop} {E:Value->Shared->Prop} (h:aP C m lv.fz f as ks σ a σ') (hm:m<=lv.n) (hq:lv.q=true) (ok:C.Ok) (G:aX C lv A μ σ s) (F:aM A N env μ ρ s.heap)
  (r:ay μ s.heap as vs) (rk:dE μ s.heap ks kvs) (hQ:∀ v μ' s',aS C lv A N env μ s ρ σ' μ' s'->af μ' s'.heap a v->Q v s'):wpAny (model C.prog C.w) A (call f vs kvs) Q E s:=
 Fi (h A μ s vs kvs _ ok (G.around (fun zz=>G.quiet hq) rfl (by have:=G.room;dsimp only;omega) (by have:=G.units;dsimp only;omega) G.frs) r rk fun v μ' s' G' x k rv=>hQ v μ' s' (aS.call rfl G F G' x k) rv)
theorem e6 {x:Str} {np pos:Pos} {e:Expr} {es:List Expr} {f:Addr} {of:Obj} {fd:Hr} {as:List AV} {m:Nat} (hf:aG C lv N (.Name x np) ρ σ (.con (.ref f)) ρ₁ σ₁) (hK:C.K.lookup f=some of) (hd:of.data=.func fd)
  (ha:jQ C lv N (e :: es) ρ₁ σ₁ as ρ₂ σ₂) (hc:aP C m lv.fz (.ref f) as [] σ₂ a σ') (hm:autoParam (m<=lv.n) aD) (hq:autoParam (lv.q=true) aR) (hn:autoParam (cA e=true) aR):aG C lv N (.Call (.Name x np) (e :: es) [] pos) ρ σ a ρ₂ σ':=by
 intro A env μ s Q E ok G F hQ
 refine GL (hf A env μ s _ _ ok G F fun v μ1 s1 P1 hv=>?_)
 obtain rfl:=hv
 refine callWith_def hd (ha A env μ1 s1 pos _ _ ok P1.good P1.fr fun vs μ2 s2 P2 r=>⟨(P2.good.inK ok) _ _ hK,?_⟩) (a7 hn)
 exact i0 hc hm hq ok P2.good P2.fr r trivial fun v μ3 s3 P3 rv=>hQ v μ3 s3 (P1.trans (P2.trans P3)) rv
end
section
variable {prog:Fq} {w:World} {A:Around} {R:Result->Shared->Prop} {s:Shared}
theorem rz {elt:Expr} {gens:List Eu} {scope:Scope} {pos:Pos}:clausesOf (.ListComp elt gens scope pos)=gens:=rfl
theorem kZ {elt:Expr} {gens:List Eu} {depth:Nat} {g:Eu} {scope:Scope} {pos:Pos} {it acc:Value} {env:Env} (hg:gens[depth]? = some g) (ha:g.is_async=0)
  (h0:GR (model prog w) A (.compLoop (.ListComp elt gens scope pos) depth it acc env) R s)
  (h:wpAny (model prog w) A (pyIter it) (fun it' s'=>GR (model prog w) A (.compLoop (.ListComp elt gens scope pos) depth it' acc env) R s') (notedBy (model prog w) A env fun x s'=>R (.error x) s') s) :
  GR (model prog w) A (.compStart (.ListComp elt gens scope pos) depth it acc env) R s:=by
 refine Gx ?_
 show wpAny _ A ((Lc (.ListComp elt gens scope pos) depth it acc env).onRaise (fun x=>do Ld x env;HT theWindowsPlace)) _ _ s
 refine wpAny_notedAt ?_
 unfold Lc
 simp only [rz,hg,Option.elim,ha,bne_self_eq_false,F6,if_false]
 refine ED (Ik (wpAny_ite ?_))
 split
 ·first
   | exact ED (EI (EI (And.intro rfl h0)))
   | exact EI (And.intro rfl h0)
 ·refine ED (IK ?_)
  first
   | exact ED (FT (ED (Es h (fun it' s' h'=>EI (And.intro rfl h')) fun zz zz x=>x)))
   | (refine ED (FT ?_);exact ED (Es h (fun it' s' h'=>EI (And.intro rfl h')) fun zz zz x=>x))
theorem iD {elt:Expr} {gens:List Eu} {depth:Nat} {g:Eu} {scope:Scope} {pos:Pos} {it acc:Value} {env:Env} (hg:gens[depth]? = some g) (haa:∀ g∈gens,g.is_async=0)
  (h:∀ E:Value->Shared->Prop,(∀ e s',E e s'=notedBy (model prog w) A env (fun e s'=>R (.error e) s') e s')->wpAny (model prog w) A (pyNext it) (fun r s₁=>match r with
   | none=>R (.ok .next) s₁
   | some v=>wpAny (model prog w) A (HH g.target it v) (fun zz s₁'=>wpAny (model prog w) A (assign g.target env v) (fun zz s₂=>
     wpAny (model prog w) A (forIn g.ifs true fun c r=>if r=true then do let ok <- isTrue c env (eval c env);pure (ForInStep.yield ok) else pure (ForInStep.yield r)) (fun ok s₃=>
      if ok=true then (match gens[depth+1]? with
       | some g'=>wpAny (model prog w) A (eval g'.iter env) (fun x s₄=>wpAny (model prog w) A (Fu g'.iter env x) (fun x s₅=>wpAny (model prog w) A (pyIter x) (fun it' s₆=>
         GR (model prog w) A (.compStart (.ListComp elt gens scope pos) (depth+1) it' acc env) (fun r s₇=>match r with
          | .ok _=>GR (model prog w) A (.compLoop (.ListComp elt gens scope pos) depth it acc env) R s₇
          | .error e=>LG (model prog w) A env E e s₇) s₆) E s₅) E s₄) E s₃
       | none=>wpAny (model prog w) A (eval elt env) (fun x s₄=>wpAny (model prog w) A (call (.builtin "list.append") [acc,x]) (fun zz s₅=>GR (model prog w) A (.compLoop (.ListComp elt gens scope pos) depth it acc env) R s₅) E s₄) E s₃)
      else GR (model prog w) A (.compLoop (.ListComp elt gens scope pos) depth it acc env) R s₃) E s₂) E s₁') E s₁) E s) :
  GR (model prog w) A (.compLoop (.ListComp elt gens scope pos) depth it acc env) R s:=by
 have ha:=haa g (EN hg)
 refine Gx ?_
 show wpAny _ A ((Lu (.ListComp elt gens scope pos) depth it acc env).onRaise (fun x=>do Ld x env;theTreesLotGoes x)) _ _ s
 refine wpAny_noted ?_
 unfold Lu
 simp only [hg,ha,bne_self_eq_false,F6,if_false]
 refine ED (FT (ED (Es (h _ fun zz zz=>rfl) (fun r s₁ h₁=>?_) fun zz zz h'=>h')))
 cases r with
 | none=>exact EI h₁
 | some v=>
  refine ED (Es h₁ (fun zz s₁' h₁'=>?_) fun zz zz h'=>h')
  refine ED (Es h₁' (fun zz s₂ h₂=>ED (Es h₂ (fun ok s₃ h₃=>?_) fun zz zz h'=>h')) fun zz zz h'=>h')
  cases ok with
  | false=>exact EI ⟨rfl,h₃⟩
  | true=>
   simp only [if_true] at h₃ ⊢
   cases hd:gens[depth+1]? with
   | none=>
    rw [hd] at h₃
    exact ED (ED (Es h₃ (fun x s₄ h₄=>ED (Es h₄ (fun zz s₅ h₅=>EI (EI ⟨rfl,h₅⟩)) fun zz zz h'=>h')) fun zz zz h'=>h'))
   | some g'=>
    rw [hd] at h₃
    have ha':=haa g' (EN hd)
    simp only [ha',bne_self_eq_false,F6,if_false]
    refine ED (Es h₃ (fun x s₄ h₄=>ED (FT (ED (Es h₄ (fun x s₅ h₅=>?_) fun zz zz h'=>h')))) fun zz zz h'=>h')
    refine ED (E1 (Es h₅ (fun it' s₆ h₆=>?_) fun zz zz h'=>h'))
    refine ED (wpAny_runOwn (h:=none) (codeAny_mono h₆ fun r s₇ h₇=>?_))
    cases r with
    | error e=>exact h₇
    | ok f=>exact EI ⟨rfl,h₇⟩
end
section
variable {C:Cx} {lv:Lv} {N:aF} {ρ ρ₁ ρ₂ ρ₃ ρ':aO} {σ σ₁ σ₂ σ₃ σ':aC} {o:Out} {a b:AV} {A:Around} {env:Env} {μ μ':Mu} {s s':Shared}
noncomputable def jM (C:Cx) (lv:Lv) (N:aF) (ifs:List Expr) (ρ:aO) (σ:aC) (b:Bool):Prop:=
 ∀ (A:Around) (env:Env) (μ:Mu) (s:Shared) (Q:Bool->Shared->Prop) (E:Value->Shared->Prop),C.Ok->aX C lv A μ σ s->aM A N env μ ρ s.heap->
  (∀ μ' s',aS C lv A N env μ s ρ σ μ' s'->Q b s')->wpAny (model C.prog C.w) A (forIn ifs true fun c r=>if r=true then do let ok <- isTrue c env (eval c env);pure (ForInStep.yield ok) else pure (ForInStep.yield r)) Q E s
theorem mh:jM C lv N [] ρ σ true:=fun A env μ s Q E ok G F hQ=>wpAny_tests_nil (hQ μ s (aS.refl G F))
theorem cm {c:Expr} {b:Bool} (h:aY C lv N c ρ σ b ρ σ):jM C lv N [c] ρ σ b:=fun A env μ s Q E ok G F hQ=>wpAny_tests_one (h A env μ s _ _ ok G F hQ)
noncomputable def Cl (C:Cx) (lv:Lv) (N:aF) (elt:Expr) (σ:aC) (gs:List Eu) (xs:List AV) (ρ:aO) (ds:List PyData):Prop:=∀ P:List Eu->List AV->aO->List PyData->Prop,
 (∀ gs ρ,P gs [] ρ [])->(∀ g gs x xs ρ ρ₁ ds,ci C lv N g.target x ρ σ ρ₁ σ->jM C lv N g.ifs ρ₁ σ false->Sub ρ₁ ρ->P (g :: gs) xs ρ ds->P (g :: gs) (x :: xs) ρ ds)->
 (∀ g x xs ρ ρ₁ d ds,ci C lv N g.target x ρ σ ρ₁ σ->jM C lv N g.ifs ρ₁ σ true->aG C lv N elt ρ₁ σ (.dat d) ρ₁ σ->Sub ρ₁ ρ->P [g] xs ρ ds->P [g] (x :: xs) ρ (d :: ds))->
 (∀ g g' gs x xs ρ ρ₁ ys es ds,ci C lv N g.target x ρ σ ρ₁ σ->jM C lv N g.ifs ρ₁ σ true->gO C lv N g'.target g'.iter [] ρ₁ σ ys ρ₁ σ->(∀ env x,Fu g'.iter env x=pure x)->P (g' :: gs) ys ρ₁ es->Sub ρ₁ ρ->P (g :: g' :: gs) xs ρ ds->P (g :: g' :: gs) (x :: xs) ρ (es++ds))->P gs xs ρ ds
section
variable {elt:Expr} {g g':Eu} {gs:List Eu} {x:AV} {xs ys:List AV} {d:PyData} {ds es:List PyData}
theorem Cl.nil:Cl C lv N elt σ gs [] ρ []:=fun zz h zz zz zz=>h _ _
theorem Cl.skip (a:ci C lv N g.target x ρ σ ρ₁ σ) (b:jM C lv N g.ifs ρ₁ σ false) (c:Sub ρ₁ ρ) (r:Cl C lv N elt σ (g :: gs) xs ρ ds):Cl C lv N elt σ (g :: gs) (x :: xs) ρ ds:=fun P h1 h2 h3 h4=>h2 _ _ _ _ _ _ _ a b c (r P h1 h2 h3 h4)
theorem Cl.one (a:ci C lv N g.target x ρ σ ρ₁ σ) (b:jM C lv N g.ifs ρ₁ σ true) (e:aG C lv N elt ρ₁ σ (.dat d) ρ₁ σ) (c:Sub ρ₁ ρ) (r:Cl C lv N elt σ [g] xs ρ ds):Cl C lv N elt σ [g] (x :: xs) ρ (d :: ds):=fun P h1 h2 h3 h4=>h3 _ _ _ _ _ _ _ a b e c (r P h1 h2 h3 h4)
theorem Cl.deep (a:ci C lv N g.target x ρ σ ρ₁ σ) (b:jM C lv N g.ifs ρ₁ σ true) (i:gO C lv N g'.target g'.iter [] ρ₁ σ ys ρ₁ σ) (f:∀ env x,Fu g'.iter env x=pure x) (q:Cl C lv N elt σ (g' :: gs) ys ρ₁ es) (c:Sub ρ₁ ρ) (r:Cl C lv N elt σ (g :: g' :: gs) xs ρ ds) :
  Cl C lv N elt σ (g :: g' :: gs) (x :: xs) ρ (es++ds):=fun P h1 h2 h3 h4=>h4 _ _ _ _ _ _ _ _ _ _ a b i f (q P h1 h2 h3 h4) c (r P h1 h2 h3 h4)
end
noncomputable def iL (C:Cx) (A:Around) (N:aF) (tg:Expr) (env:Env) (μ:Mu) (h:Heap) (I D:Addr) (wr:List Addr) (items:List AV):Prop:=
 ∃ fp P St all i,eX C.prog C.w A tg I fp wr (all:List AV).length P St/\St i h/\i<=all.length/\items=all.drop i/\(∀ b∈fp,b<h.objs.size/\¬ WS μ N env b/\b≠D/\¬ FA A b)/\(∀ b∈wr,b∈μ.hid/\b∉μ.foot/\b≠env.locals/\∀ p∈env.cells,p.2≠b) /\
  ∀ (j:Nat) v a n h' μ',all[j]? = some a->P j v n h'->(∀ b∈μ'.hid,b<n)->Mov μ μ' h h'->af μ' h' a v
structure Acc (C:Cx) (env:Env) (μ:Mu) (h:Heap) (D:Addr) (acc:List PyData):Prop where
 hid:D∈μ.hid
 foot:D∉μ.foot
 loc:D≠env.locals
 cel:∀ p∈env.cells,p.2≠D
 rd:∃ ys bs,h.PlainList D ys/\FZ (cL μ.hid h) ys.toList acc bs
theorem hM {h:Heap} {D:Addr} {acc:List PyData} (x:Acc C env μ h D acc):¬ WS μ N env D:=by
 rintro (⟨i,p,hp,_,hb⟩ | e | ⟨y,_,hl⟩)
 ·exact x.foot (aj (EN hp) hb)
 ·exact x.loc e
 ·exact x.cel (y,D) (bG hl) rfl
theorem lq {W:Addr->Prop} {vs:List Value} {ds:List PyData} {bs:List Addr} (x:Ext μ μ' s.heap.objs.size) (k:aL A W s s') (hW:∀ b,W b\/FA A b->b∈μ.hid\/s.heap.objs.size<=b) (r:FZ (cL μ.hid s.heap) vs ds bs):FZ (cL μ'.hid s'.heap) vs ds bs:=
 PyProof.Rows.ReadsAll.keeps (lL x k hW) r
theorem Acc.keeps {W:Addr->Prop} {D:Addr} {acc:List PyData} (h:Acc C env μ s.heap D acc) (G:aX C lv A μ σ s) (x:Ext μ μ' s.heap.objs.size) (k:aL A W s s') (hW:∀ b,W b\/FA A b->b∈μ.hid\/s.heap.objs.size<=b) (hD:¬ W D):Acc C env μ' s'.heap D acc:=by
 obtain ⟨ys,bs,⟨n,hp⟩,r⟩:=h.rd
 refine ⟨x.sub _ h.hid,fun q=>(x.foot _ q).elim h.foot fun l=>absurd (G.lt _ h.hid) (E3.mpr l),h.loc,h.cel,ys,bs,⟨n,k.atD hD (fun zz zz q=>by cases q) hp⟩,lq x k hW r⟩
end
section
variable {C:Cx} {lv:Lv} {N:aF} {ρ ρ₁ ρ₂ ρ₃ ρ':aO} {σ σ₁ σ₂ σ₃ σ':aC} {o:Out} {a b:AV} {A:Around} {env:Env} {μ μ':Mu} {s s':Shared} {I D:Addr} {tg:Expr} {wr:List Addr} {items:List AV} {acc:List PyData}
theorem iL.keeps {W:Addr->Prop} (h:iL C A N tg env μ s.heap I D wr items) (hz:μ'.fz=μ.fz) (x:Ext μ μ' s.heap.objs.size) (k:aL A W s s') (hW:∀ b,W b\/FA A b->b∈μ.hid\/s.heap.objs.size<=b) (hN:∀ b,W b->WS μ N env b\/b=D\/s.heap.objs.size<=b):iL C A N tg env μ' s'.heap I D wr items:=by
 obtain ⟨fp,P,St,all,i,w,st,hi,e,hfp,hwr,hP⟩:=h
 refine ⟨fp,P,St,all,i,w,w.frame i _ _ st fun b hb ob e=>k.at (fun hw=>?_) (hfp b hb).2.2.2 e,hi,e,fun b hb=>⟨E8 (hfp b hb).1 k.le,fun q=>?_,(hfp b hb).2.2⟩,fun b hb=>⟨x.sub _ (hwr b hb).1,fun q=>?_,(hwr b hb).2.2⟩,fun j v a n h' μ'' e p hn m=>hP j v a n h' μ'' e p hn ((Mov.of x k hW).trans m)⟩
 ·rcases hN b hw with q | q | q
  ·exact (hfp b hb).2.1 q
  ·exact (hfp b hb).2.2.1 q
  ·exact absurd (hfp b hb).1 (E3.mpr q)
 ·rcases bi x hz b q with q | q
  ·exact (hfp b hb).2.1 q
  ·exact absurd (hfp b hb).1 (E3.mpr q)
 ·rcases x.foot b q with q | q
  ·exact (hwr b hb).2.1 q
  ·exact absurd (hfp b (w.sub b hb)).1 (E3.mpr q)
theorem mo {h':Heap} {tk:Nat} (G:aX C lv A μ σ s) (F:aM A N env μ ρ s.heap) (hA:Acc C env μ s.heap D acc) (hwr:∀ b∈wr,b∈μ.hid/\b∉μ.foot/\b≠env.locals/\∀ p∈env.cells,p.2≠b) (hD:D∉wr) (hnf:∀ b∈wr,¬ FA A b) (hl:s.heap.objs.size<=h'.objs.size)
  (hk:∀ b o,b∉wr->s.heap.get? b=some o->h'.get? b=some o):aL A (·∈wr) s {s with heap:=h',toks:=tk}/\aX C lv A μ σ {s with heap:=h',toks:=tk}/\aM A N env μ ρ h'/\Acc C env μ h' D acc:=by
 have k:aL A (·∈wr) s {s with heap:=h',toks:=tk}:=⟨h',_,_,rfl,⟨hl,id⟩,fun b o hb e=>.inl (hk b o hb e)⟩
 exact ⟨k,G.turn k (fun b hb=>(hwr b hb).1) (fun b hb=>(hwr b hb).2.1) (fun b hf hb=>absurd hf (hnf b hb)),F.ext (s':={s with heap:=h',toks:=tk}) (Ext.refl _ _) k (G.fw fun b hb=>.inl (hwr b hb).1) (fun q=>(hwr _ q).2.2.1 rfl) (fun p hp q=>(hwr _ q).2.2.2 p hp rfl),
  hA.keeps (s':={s with heap:=h',toks:=tk}) G (Ext.refl _ _) k (G.fw fun b hb=>.inl (hwr b hb).1) hD⟩
theorem iZ {x:AV} {xs:List AV} {Q:Option Value->Shared->Prop} {K:Value->Shared->Prop} {E:Value->Shared->Prop} (h:iL C A N tg env μ s.heap I D wr (x :: xs)) (G:aX C lv A μ σ s) (F:aM A N env μ ρ s.heap) (hA:Acc C env μ s.heap D acc)
  (hq:∀ v s1,wpAny (model C.prog C.w) A (HH tg (.ref I) v) (fun zz s2=>K v s2) E s1->Q (some v) s1)
  (hQ:∀ v s',aL A (·∈wr) s s'->aX C lv A μ σ s'->aM A N env μ ρ s'.heap->Acc C env μ s'.heap D acc->af μ s'.heap x v->iL C A N tg env μ s'.heap I D wr xs->K v s'):wpAny (model C.prog C.w) A (pyNext (.ref I)) Q E s:=by
 obtain ⟨fp,P,St,all,i,w,st,hi,e,hfp,hwr,hP⟩:=h
 have hlt:i<all.length:=by
  rcases JM i all.length with q | q
  ·exact q
  ·rw [Fn q] at e;cases e
 rw [Gg hlt] at e
 obtain ⟨e1,e2⟩:=HX.inj e
 refine w.item i s _ _ _ hlt st hq fun v h' tk hv st' hk hl=>?_
 have' hD:D∉wr:=fun q=>(hfp D (w.sub D q)).2.2.1 rfl
 obtain ⟨k,g,f,ac⟩:=mo (tk:=tk) G F hA hwr hD (fun b hb=>(hfp b (w.sub b hb)).2.2.2) hl hk
 have mv:Mov μ μ s.heap h':=Mov.of (s':={s with heap:=h',toks:=tk}) (Ext.refl _ _) k (G.fw fun b hb=>.inl (hwr b hb).1)
 exact hQ v _ k g f ac (hP i v x _ _ _ (by rw [Eb hlt,e1]) hv G.lt mv) ⟨fp,P,St,all,i+1,w,st',hlt,e2,fun b hb=>⟨E8 (hfp b hb).1 hl,(hfp b hb).2⟩,hwr,fun j v a n h'' μ'' e p hn m=>hP j v a n h'' μ'' e p hn (mv.trans m)⟩
theorem rN {Q:Option Value->Shared->Prop} {E:Value->Shared->Prop} (h:iL C A N tg env μ s.heap I D wr []) (G:aX C lv A μ σ s) (F:aM A N env μ ρ s.heap) (hA:Acc C env μ s.heap D acc)
  (hQ:∀ s',aL A (·∈wr) s s'->aX C lv A μ σ s'->aM A N env μ ρ s'.heap->Acc C env μ s'.heap D acc->Q none s'):wpAny (model C.prog C.w) A (pyNext (.ref I)) Q E s:=by
 obtain ⟨fp,P,St,all,i,w,st,hi,e,hfp,hwr,hP⟩:=h
 have' hii:i=all.length:=by
  rcases JM i all.length with q | q
  ·rw [Gg q] at e;cases e
  ·omega
 subst hii
 refine ao (w.done s _ _ st fun h' tk hk hl=>?_)
 have' hD:D∉wr:=fun q=>(hfp D (w.sub D q)).2.2.1 rfl
 obtain ⟨k,g,f,ac⟩:=mo (tk:=tk) G F hA hwr hD (fun b hb=>(hfp b (w.sub b hb)).2.2.2) hl hk
 exact hQ _ k g f ac
theorem jd.mid {base:Nat} (G:aX C lv A μ σ s) (h:jd C A N tg env μ [] base s.heap I items) (hA:Acc C env μ s.heap D acc) (hD:D<base) (hL:env.locals<base) (hc:∀ p∈env.cells,p.2<base):∃ wr,iL C A N tg env μ s.heap I D wr items/\∀ b∈wr,base<=b:=by
 obtain ⟨fp,wr,P,St,w,st,h1,h2,h3,h4,h5⟩:=h
 refine ⟨wr,⟨fp,P,St,items,0,w,st,En _,rfl,fun b hb=>⟨h1 b hb,(h2 b hb).1,?_,(h2 b hb).2⟩,fun b hb=>⟨(h3 b hb).1,(h3 b hb).2.1,?_,fun p hp=>?_⟩,h5⟩,fun b hb=>(h3 b hb).2.2⟩
 ·rintro rfl
  rcases h4 _ hb hA.hid with q | q
  ·exact absurd hD (E3.mpr (h3 _ q).2.2)
  ·exact hA.foot q
 ·rintro rfl;exact absurd hL (E3.mpr (h3 _ hb).2.2)
 ·rintro rfl;exact absurd (hc p hp) (E3.mpr (h3 _ hb).2.2)
theorem rM {v:Value} {d:PyData} {Q:Value->Shared->Prop} {E:Value->Shared->Prop} (G:aX C lv A μ σ s) (F:aM A N env μ ρ s.heap) (hA:Acc C env μ s.heap D acc) (r:af μ s.heap (.dat d) v) (hz:acc.length<=FI)
  (hQ:∀ x s',aL A (· = D) s s'->aX C lv A μ σ s'->aM A N env μ ρ s'.heap->Acc C env μ s'.heap D (acc++[d])->Q x s'):wpAny (model C.prog C.w) A (call (.builtin "list.append") [.ref D,v]) Q E s:=by
 obtain ⟨ys,bs,hp,ra⟩:=hA.rd
 have' hys:ys.size=acc.length:=a9 ra
 refine KA (hsz:=by rw [hys];exact hz) hp fun h' l sb=>?_
 have k:aL A (· = D) s {s with heap:=h'}:=⟨h',_,_,rfl,⟨Ec sb.1.symm,id⟩,fun b o hb e=>.inl (sb.extBut b o hb e)⟩
 have hW:∀ b,b=D\/FA A b->b∈μ.hid\/s.heap.objs.size<=b:=G.fw fun b hb=>hb▸.inl hA.hid
 refine hQ _ _ k (G.turn k (fun b hb=>hb▸hA.hid) (fun b hb=>hb▸hA.foot) (fun b hf hb=>by
  subst hb;obtain ⟨_,_,o,es,n,e,d⟩:=G.frs.fa hf;obtain ⟨n',e'⟩:=hp
  rw [e] at e';cases e';cases d)) (F.ext (s':={s with heap:=h'}) (Ext.refl _ _) k hW (fun q=>hA.loc q.symm) (fun p hp q=>hA.cel p hp q)) ?_
 obtain ⟨as,rv⟩:=r
 have up:=lL (μ:=μ) (s':={s with heap:=h'}) (Ext.refl _ _) k hW
 obtain ⟨cs,z⟩:=mC (PyProof.Rows.Reads.keeps up rv) (PyProof.Rows.ReadsAll.keeps up ra)
 refine ⟨hA.hid,hA.foot,hA.loc,hA.cel,ys.push v,cs,l,?_⟩
 rw [Jg]
 exact z
theorem fP {α:Type} {l gs:List α} {g:α} {d:Nat} (h:l.drop d=g :: gs):l[d]? = some g/\l.drop (d+1)=gs:=by
 have hlt:d<l.length:=by
  rcases JM d l.length with q | q
  ·exact q
  ·rw [Fn q] at h;cases h
 rw [Gg hlt] at h
 obtain ⟨e1,e2⟩:=HX.inj h
 exact ⟨by rw [Eb hlt,e1],e2⟩
theorem Ext.le {μ μ':Mu} {n m:Nat} (z:Ext μ μ' m) (h:n<=m):Ext μ μ' n:=⟨z.grow.imp fun zz g=>⟨g.1,fun p hp b hb=>EH h (g.2 p hp b hb)⟩,z.sub,fun b hb=>(z.new b hb).imp id (EH h)⟩
theorem jg {env:Env} {μ μ':Mu} {s s1 s2 s3:Shared} {D:Addr} {wr:List Addr} (k1:aL A (·∈wr) s s1) (k2:aL A (fun b=>WS μ N env b\/b=D) s1 s2) (x:Ext μ μ' s1.heap.objs.size) (hz:μ'.fz=μ.fz) (k3:aL A (fun b=>WS μ' N env b\/b=D\/b∈wr) s2 s3) :
  aL A (fun b=>WS μ N env b\/b=D\/b∈wr) s s3:=
 ((k1.mono fun b hb=>.inl (.inr (.inr hb))).trans k2 fun b hb=>.inl (hb.imp id .inl)).trans k3 fun b hb=>by
  rcases hb with q | q
  ·rcases bi x hz b q with q | q
   ·exact .inl (.inl q)
   ·exact .inr (EH k1.le q)
  ·exact .inl (.inr q)
theorem uP {elt:Expr} {gens:List Eu} {scope:Scope} {pos:Pos} (haa:∀ g∈gens,g.is_async=0) (okC:C.Ok) {gs:List Eu} {ds:List PyData} (h:Cl C lv N elt σ gs items ρ ds) :
  ∀ {depth:Nat} {A:Around} {env:Env} {μ:Mu} {s:Shared} {I:Addr} {wr:List Addr} {acc:List PyData} {R:Result->Shared->Prop},gens.drop depth=gs->(∃ g r,gs=g :: r/\iL C A N g.target env μ s.heap I D wr items)->aX C lv A μ σ s->aM A N env μ ρ s.heap->Acc C env μ s.heap D acc->
   acc.length+ds.length<=FI->
   (∀ μ' s',aX C lv A μ' σ s'->aM A N env μ' ρ s'.heap->Ext μ μ' s.heap.objs.size->aL A (fun b=>WS μ N env b\/b=D\/b∈wr) s s'->Acc C env μ' s'.heap D (acc++ds)->R (.ok .next) s')->
   GR (model C.prog C.w) A (.compLoop (.ListComp elt gens scope pos) depth (.ref I) (.ref D) env) R s:=by
 refine h (fun gs items ρ ds=>∀ {depth:Nat} {A:Around} {env:Env} {μ:Mu} {s:Shared} {I:Addr} {wr:List Addr} {acc:List PyData} {R:Result->Shared->Prop},gens.drop depth=gs->(∃ g r,gs=g :: r/\iL C A N g.target env μ s.heap I D wr items)->aX C lv A μ σ s->aM A N env μ ρ s.heap->Acc C env μ s.heap D acc->acc.length+ds.length<=FI->(∀ μ' s',aX C lv A μ' σ s'->aM A N env μ' ρ s'.heap->Ext μ μ' s.heap.objs.size->aL A (fun b=>WS μ N env b\/b=D\/b∈wr) s s'->Acc C env μ' s'.heap D (acc++ds)->R (.ok .next) s')->GR (model C.prog C.w) A (.compLoop (.ListComp elt gens scope pos) depth (.ref I) (.ref D) env) R s) ?nil ?skip ?one ?deep
 case nil=>
  intro gs ρ depth A env μ s I wr acc R hg qq1 G F hA hz hR;obtain ⟨g,gs,e0,hI⟩:=qq1;subst e0;obtain ⟨hg1,_⟩:=fP hg;refine iD hg1 haa fun E hE=>?_
  refine rN hI G F hA fun s1 k g f ac=>?_
  exact hR μ s1 g f (Ext.refl _ _) (k.mono fun b hb=>.inl (.inr (.inr hb))) (by rw [FH];exact ac)
 case skip=>
  intro g gs x xs ρ ρ₁ ds ha ht hs ih depth A env μ s I wr acc R hg qq1 G F hA hz hR;obtain ⟨_,_,e0,hI⟩:=qq1
  cases e0
  obtain ⟨hg1,hg2⟩:=fP hg;refine iD hg1 haa fun E hE=>?_
  have wrh:∀ b∈wr,b∈μ.hid:=by obtain ⟨_,_,_,_,_,_,_,_,_,_,q,_⟩:=hI;exact fun b hb=>(q b hb).1
  refine iZ hI G F hA (fun v s1 h=>h) fun v s1 k1 g1 f1 ac1 rv it1=>?_
  refine ha A env μ s1 v _ _ okC g1 f1 rv fun μ2 s2 P2=>ht A env μ2 s2 _ _ okC P2.good P2.fr fun μ3 s3 P3=>?_
  have P:=P2.trans P3;have hid1:∀ b,WS μ N env b\/FA A b->b∈μ.hid\/s1.heap.objs.size<=b:=g1.fw fun b hb=>.inl (dC g1.sim f1 b hb)
  have' ac3:=ac1.keeps g1 P.ext P.kept hid1 (hM ac1);have' it3:=it1.keeps (P.good.frz.trans g1.frz.symm) P.ext P.kept hid1 fun b hb=>.inl hb
  show GR _ _ _ _ _
  refine ih hg ⟨_,_,rfl,it3⟩ P.good (P.fr.sub hs) ac3 hz fun μ4 s4 g4 f4 x4 k4 a4=>hR μ4 s4 g4 f4 ((P.ext.trans x4 P.kept.le).le k1.le) (jg k1 (P.kept.mono fun b hb=>.inl (.inl hb)) P.ext (P.good.frz.trans g1.frz.symm) k4) a4
 case one=>
  intro g x xs ρ ρ₁ d ds ha ht he hs ih depth A env μ s I wr acc R hg qq1 G F hA hz hR;obtain ⟨_,_,e0,hI⟩:=qq1
  cases e0
  obtain ⟨hg1,hg2⟩:=fP hg;have' hg3:gens[depth+1]? = none:=by
   rw [Ih]
   have:=congrArg H7 hg2
   simp at this;omega
  refine iD hg1 haa fun E hE=>?_
  refine iZ hI G F hA (fun v s1 h=>h) fun v s1 k1 g1 f1 ac1 rv it1=>?_
  refine ha A env μ s1 v _ _ okC g1 f1 rv fun μ2 s2 P2=>ht A env μ2 s2 _ _ okC P2.good P2.fr fun μ3 s3 P3=>?_
  rw [if_pos rfl,hg3]
  refine he A env μ3 s3 _ _ okC P3.good P3.fr fun y μ4 s4 P4 ry=>?_
  have P:=P2.trans (P3.trans P4);have hid1:∀ b,WS μ N env b\/FA A b->b∈μ.hid\/s1.heap.objs.size<=b:=g1.fw fun b hb=>.inl (dC g1.sim f1 b hb)
  have ac4:=ac1.keeps g1 P.ext P.kept hid1 (hM ac1);have' it4:=it1.keeps (P.good.frz.trans g1.frz.symm) P.ext P.kept hid1 fun b hb=>.inl hb
  refine rM P.good P.fr ac4 ry (by simp at hz;omega) fun zz s5 k5 g5 f5 ac5=>?_
  have it5:=it4.keeps rfl (Ext.refl _ _) k5 (P.good.fw fun b hb=>hb▸.inl ac4.hid) fun b hb=>.inr (.inl hb)
  refine ih hg ⟨_,_,rfl,it5⟩ g5 (f5.sub hs) ac5 (by simp at hz ⊢;omega) fun μ6 s6 g6 f6 x6 k6 a6=>hR μ6 s6 g6 f6 ((P.ext.trans x6 (EH P.kept.le k5.le)).le k1.le) (jg k1 ((P.kept.mono (W':=fun b=>WS μ N env b\/b=D) fun b hb=>.inl (.inl hb)).trans k5 fun b hb=>.inl (.inr hb)) P.ext (P.good.frz.trans g1.frz.symm) k6) (by simpa using a6)
 case deep=>
  intro g g' gs x xs ρ ρ₁ ys es ds ha ht hi hf ih1 hs ih2 depth A env μ s I wr acc R hg qq1 G F hA hz hR;obtain ⟨_,_,e0,hI⟩:=qq1
  cases e0
  obtain ⟨hg1,hg2⟩:=fP hg;obtain ⟨hg3,hg4⟩:=fP hg2;refine iD hg1 haa fun E hE=>?_
  refine iZ hI G F hA (fun v s1 h=>h) fun v s1 k1 g1 f1 ac1 rv it1=>?_
  refine ha A env μ s1 v _ _ okC g1 f1 rv fun μ2 s2 P2=>ht A env μ2 s2 _ _ okC P2.good P2.fr fun μ3 s3 P3=>?_
  rw [if_pos rfl,hg3]
  dsimp only;refine Es (hi A env μ3 s3 _ E okC P3.good P3.fr fun I' μ4 s4 P4 hIt=>?_) (fun y s4 hy=>GG (hf env y) hy) fun zz zz e=>e
  have P:=P2.trans (P3.trans P4);have hid1:∀ b,WS μ N env b\/FA A b->b∈μ.hid\/s1.heap.objs.size<=b:=g1.fw fun b hb=>.inl (dC g1.sim f1 b hb)
  have' ac3:=ac1.keeps g1 (P2.trans P3).ext (P2.trans P3).kept hid1 (hM ac1);have ac4:=ac1.keeps g1 P.ext P.kept hid1 (hM ac1);have it4:=it1.keeps (P.good.frz.trans g1.frz.symm) P.ext P.kept hid1 fun b hb=>.inl hb
  obtain ⟨wr',it',hwr'⟩:=hIt.mid P.good ac4 (P3.good.lt _ ac3.hid) (P3.good.lt _ P3.fr.hidL) fun p hp=>P3.good.lt _ (P3.fr.cells p hp).1
  have loop:GR (model C.prog C.w) A (.compLoop (.ListComp elt gens scope pos) (depth+1) (.ref I') (.ref D) env) (fun r s₇=>match r with
    | .ok _=>GR (model C.prog C.w) A (.compLoop (.ListComp elt gens scope pos) depth (.ref I) (.ref D) env) R s₇
    | .error e=>LG (model C.prog C.w) A env E e s₇) s4:=by
   refine ih1 hg2 ⟨_,_,rfl,it'⟩ P.good P.fr ac4 (by simp at hz ⊢;omega) fun μ5 s5 g5 f5 x5 k5 a5=>?_
   have' kk:∀ b,WS μ4 N env b\/b=D\/b∈wr'->WS μ N env b\/b=D\/s1.heap.objs.size<=b:=fun b hb=>by
    rcases hb with q | q | q
    ·exact (bi P.ext (P.good.frz.trans g1.frz.symm) b q).imp id .inr
    ·exact .inr (.inl q)
    ·exact .inr (.inr (EH (P2.trans P3).kept.le (hwr' b q)))
   have k15:aL A (fun b=>WS μ N env b\/b=D) s1 s5:=(P.kept.mono (W':=fun b=>WS μ N env b\/b=D) fun b hb=>.inl (.inl hb)).trans k5 fun b hb=>by
    rcases kk b hb with q | q | q
    ·exact .inl (.inl q)
    ·exact .inl (.inr q)
    ·exact .inr q
   have x15:=P.ext.trans x5 P.kept.le;have it5:=it1.keeps (g5.frz.trans g1.frz.symm) x15 k15 (g1.fw fun b hb=>hb.elim (fun q=>hid1 b (.inl q)) fun q=>q▸.inl ac1.hid) fun b hb=>hb.elim .inl fun q=>.inr (.inl q)
   refine ih2 hg ⟨_,_,rfl,it5⟩ g5 (f5.sub hs) a5 (by simp at hz ⊢;omega) fun μ6 s6 g6 f6 x6 k6 a6=>hR μ6 s6 g6 f6 ((x15.trans x6 k15.le).le k1.le) (jg k1 k15 x15 (g5.frz.trans g1.frz.symm) k6) (by simpa using a6)
  refine kZ hg3 (haa g' (EN hg3)) loop ?_;obtain ⟨fp',P',St',all',i',w',st',_⟩:=it';exact w'.self _ s4 _ _ st' loop
end
theorem dR {k:Ee} {x:Str} {l:aF} (nd:(l.map (·.1)).Nodup) (h:(x,k)∈l):l.lookup x=some k:=by
 induction l with
 | nil=>exact absurd h Fe
 | cons p l ih=>
  obtain ⟨y,ky⟩:=p
  rw [E9,GI] at nd
  rw [GU,]
  rcases EV.mp h with e | h
  ·cases e;simp
  ·have:(x==y)=false:=beq_eq_false_iff_ne.mpr fun q=>nd.1 (EO.mpr ⟨(x,k),h,q⟩)
   rw [this,]
   exact ih nd.2 h
noncomputable def iy (env:Env):Str×Ee->Str×Ee:=fun (n,k)=>if (k==Ee.free && env.scope.kind==ScopeKind.function && env.kindOf n==some Ee.cell) then (n,Ee.cell) else (n,k)
set_option tactic.hygienic true in
theorem lV {scope:Scope} {env e':Env} (he:e'.scope=JO scope env) (nd:(scope.names.map (·.1)).Nodup):∀ p∈scope.names,e'.kindOf p.1=some p.2\/(p.2=.free/\e'.kindOf p.1=some .cell):=by
 rintro ⟨x,k⟩ hp
 unfold Env.kindOf
 rw [he,]
 show List.lookup x (scope.names.map (iy env))=some k\/(k=.free/\List.lookup x (scope.names.map (iy env))=some .cell)
 generalize hf:iy env=f
 have f1:∀ p:Str×Ee,(f p).1=p.1:=by rintro ⟨n,k⟩;rw [<- hf,];unfold iy;dsimp only;split<;>rfl
 have' f2:(f (x,k)).2=k\/(k=.free/\(f (x,k)).2=.cell):=by
  rw [<- hf,];unfold iy;dsimp only
  split
  ·rename_i h
   simp only [Ea,beq_iff_eq] at h
   exact .inr ⟨h.1.1,rfl⟩
  ·exact .inl rfl
 have' nd':((scope.names.map f).map (·.1)).Nodup:=by
  rw [ET,]
  have:((fun x=>x.1) ∘ f:Str×Ee->Str)=fun p=>p.1:=funext f1
  rw [this,];exact nd
 have' hm:(x,(f (x,k)).2)∈scope.names.map f:=EO.mpr ⟨(x,k),hp,Prod.ext (f1 _) rfl⟩
 have:=dR nd' hm
 rcases f2 with e | ⟨e,e'⟩
 ·exact .inl (by rw [this,e,])
 ·exact .inr ⟨e,by rw [this,e',]⟩
theorem fj {env:Env}:∀ {names:aF} {acc:List (Str×Addr)},(∀ x,(x,Ee.free)∈names->∃ c,env.cells.lookup x=some c)->
  ∃ cl,(forIn names acc fun (x:Str×Ee) cs=>if (x.2==Ee.free)=true then do let a <- cellOf env x.1;pure (ForInStep.yield ((x.1,a) :: cs)) else pure (ForInStep.yield cs):Sem (List (Str×Addr)))=pure (cl++acc) /\
   (∀ p∈cl,env.cells.lookup p.1=some p.2/\(p.1,Ee.free)∈names)/\∀ x,(x,Ee.free)∈names->∃ c,(x,c)∈cl:=by
 intro names
 induction names with
 | nil=>intro acc _;exact ⟨[],by rw [I5,];rfl,(fun zz h=>zD h),fun zz h=>zD h⟩
 | cons p names fj=>
  obtain ⟨y,k⟩:=p;intro acc h
  rw [KV,]
  by_cases hk:k=.free
  ·subst hk
   obtain ⟨c,hc⟩:=h y (.head _);obtain ⟨cl,e,h1,h2⟩:=fj (acc:=(y,c) :: acc) fun x hx=>h x (.tail _ hx)
   refine ⟨cl++[(y,c)],?_,fun p hp=>?_,fun x hx=>?_⟩
   ·simp only [beq_self_eq_true,if_true]
    have e1:cellOf env y=pure c:=by unfold cellOf;rw [hc,]
    rw [e1,]
    refine Eq.trans ?_ (Eq.trans e ?_)
    ·rfl
    ·rw [FK,];rfl
   ·rcases EG.mp hp with q | q
    ·exact ⟨(h1 p q).1,.tail _ (h1 p q).2⟩
    ·rw [EJ.mp q,];exact ⟨hc,.head _⟩
   ·rcases EV.mp hx with e | hx
    ·cases e;exact ⟨c,EG.mpr (.inr (.head _))⟩
    ·obtain ⟨d,hd⟩:=h2 x hx;exact ⟨d,EG.mpr (.inl hd)⟩
  ·obtain ⟨cl,e,h1,h2⟩:=fj (acc:=acc) fun x hx=>h x (.tail _ hx)
   refine ⟨cl,?_,fun p hp=>⟨(h1 p hp).1,.tail _ (h1 p hp).2⟩,fun x hx=>?_⟩
   ·have:(k==Ee.free)=false:=beq_eq_false_iff_ne.mpr hk
    simp only [this,F6,if_false]
    exact e
   ·rcases EV.mp hx with e | hx
    ·cases e;exact absurd rfl hk
    ·exact h2 x hx
theorem rl {scope:Scope} {env:Env} (h:∀ x,(x,Ee.free)∈scope.names->∃ c,env.cells.lookup x=some c):∃ cl,LH scope env=pure cl/\(∀ p∈cl,env.cells.lookup p.1=some p.2/\(p.1,Ee.free)∈scope.names)/\∀ x,(x,Ee.free)∈scope.names->∃ c,(x,c)∈cl:=by
 obtain ⟨cl,e,h1,h2⟩:=fj (acc:=[]) h
 refine ⟨cl,?_,h1,h2⟩
 rw [FH] at e
 unfold LH
 have:=congrArg (fun t:Sem (List (Str×Addr))=>t >>= fun s=>pure s) e
 exact this
noncomputable def eE (N:aF) (ρ:aO) (x:Str) (a:AV):Prop:=∀ P:aF->aO->Prop,(∀ N ρ,P ((x,.cell) :: N) (some a :: ρ))->(∀ N ρ,P ((x,.free) :: N) (some a :: ρ))->(∀ p N o ρ,P N ρ->P (p :: N) (o :: ρ))->P N ρ
theorem eE.cell {x:Str} {N:aF} {a:AV} {ρ:aO}:eE ((x,.cell) :: N) (some a :: ρ) x a:=fun zz h zz zz=>h _ _
theorem eE.free {x:Str} {N:aF} {a:AV} {ρ:aO}:eE ((x,.free) :: N) (some a :: ρ) x a:=fun zz zz h zz=>h _ _
theorem eE.there {p:Str×Ee} {N:aF} {o:Option AV} {ρ:aO} {x:Str} {a:AV} (l:eE N ρ x a):eE (p :: N) (o :: ρ) x a:=fun P g h t=>t _ _ _ _ (l P g h t)
theorem eE.load {N:aF} {ρ:aO} {x:Str} {a:AV} (h:eE N ρ x a):bq N ρ x a/\((x,Ee.cell)∈N\/(x,Ee.free)∈N):=
 h (fun N ρ=>bq N ρ x a/\((x,Ee.cell)∈N\/(x,Ee.free)∈N)) (fun zz zz=>⟨.here,.inl (.head _)⟩) (fun zz zz=>⟨.here,.inr (.head _)⟩) fun zz zz zz zz ih=>⟨.there ih.1,ih.2.imp (.tail _) (.tail _)⟩
noncomputable def gT (N:aF) (ρ:aO) (N':aF) (ρ':aO):Prop:=∀ P:aF->aO->Prop,P [] []->(∀ x a N' ρ',eE N ρ x a->P N' ρ'->P ((x,.free) :: N') (some a :: ρ'))->(∀ p N' ρ',P N' ρ'->P (p :: N') (none :: ρ'))->P N' ρ'
theorem gT.nil {N:aF} {ρ:aO}:gT N ρ [] []:=fun zz h zz zz=>h
theorem gT.free {N:aF} {ρ:aO} {x:Str} {a:AV} {N':aF} {ρ':aO} (l:eE N ρ x a) (c:gT N ρ N' ρ'):gT N ρ ((x,.free) :: N') (some a :: ρ'):=fun P f g h=>g _ _ _ _ l (c P f g h)
theorem gT.other {N:aF} {ρ:aO} {p:Str×Ee} {N':aF} {ρ':aO} (c:gT N ρ N' ρ'):gT N ρ (p :: N') (none :: ρ'):=fun P f g h=>h _ _ _ (c P f g h)
noncomputable def dX (N:aF) (x:Str):Prop:=∀ P:aF->Prop,(∀ N,P ((x,.cell) :: N))->(∀ N,P ((x,.free) :: N))->(∀ p N,P N->P (p :: N))->P N
theorem dX.cell {x:Str} {N:aF}:dX ((x,.cell) :: N) x:=fun zz h zz zz=>h _
theorem dX.free {x:Str} {N:aF}:dX ((x,.free) :: N) x:=fun zz zz h zz=>h _
theorem dX.there {p:Str×Ee} {N:aF} {x:Str} (c:dX N x):dX (p :: N) x:=fun P f g h=>h _ _ (c P f g h)
theorem dX.mem {N:aF} {x:Str} (h:dX N x):(x,Ee.cell)∈N\/(x,Ee.free)∈N:=
 h (fun N=>(x,Ee.cell)∈N\/(x,Ee.free)∈N) (fun zz=>.inl (.head _)) (fun zz=>.inr (.head _)) fun zz zz ih=>ih.imp (.tail _) (.tail _)
noncomputable def cH (N:aF) (N':aF):Prop:=∀ P:aF->Prop,P []->(∀ x N',dX N x->P N'->P ((x,.free) :: N'))->(∀ x k N',k≠.free->P N'->P ((x,k) :: N'))->P N'
theorem cH.nil {N:aF}:cH N []:=fun zz h zz zz=>h
theorem cH.free {N:aF} {x:Str} {N':aF} (c:dX N x) (f:cH N N'):cH N ((x,.free) :: N'):=fun P a b d=>b _ _ c (f P a b d)
theorem cH.not {N:aF} {x:Str} {k:Ee} {N':aF} (hk:k≠.free) (f:cH N N'):cH N ((x,k) :: N'):=fun P a b d=>d _ _ _ hk (f P a b d)
theorem cH.loc {N:aF} {x:Str} {N':aF} (f:cH N N'):cH N ((x,.local) :: N'):=f.not nofun
theorem cH.cel {N:aF} {x:Str} {N':aF} (f:cH N N'):cH N ((x,.cell) :: N'):=f.not nofun
theorem cH.glo {N:aF} {x:Str} {N':aF} (f:cH N N'):cH N ((x,.globalImplicit) :: N'):=f.not nofun
theorem cH.mem {N N':aF} (h:cH N N'):∀ x,(x,Ee.free)∈N'->(x,Ee.cell)∈N\/(x,Ee.free)∈N:=by
 refine h (fun N'=>∀ x,(x,Ee.free)∈N'->(x,Ee.cell)∈N\/(x,Ee.free)∈N) (fun zz h=>zD h) (fun x N' hc ih y h=>?_) fun x k N' hk ih y h=>?_<;>rcases EV.mp h with e | h
 ·cases e;exact hc.mem
 ·exact ih y h
 ·cases e;exact absurd rfl hk
 ·exact ih y h
theorem gT.vars {N N':aF} {ρ ρ':aO} {env:Env} {m:Str->Option Value} {μ:Mu} {h:Heap} (cl:gT N ρ N' ρ'):(∀ x a,(x,Ee.free)∈N'->eE N ρ x a->du env m μ h x a)->fE env m μ h N' ρ':=
 cl (fun N' ρ'=>(∀ x a,(x,Ee.free)∈N'->eE N ρ x a->du env m μ h x a)->fE env m μ h N' ρ') (fun zz=>trivial) (fun zz zz zz zz l ih f=>⟨f _ _ (.head _) l,ih fun x a hx=>f x a (.tail _ hx)⟩) fun zz zz zz ih f=>ih fun x a hx=>f x a (.tail _ hx)
set_option tactic.hygienic true in
theorem l9:∀ {names:aF} {n:Nat} {x:Str},(names.map (·.1)).Nodup->(x,Ee.free)∈names->(GV n names []).lookup x=none:=by
 intro names n x nd hx
 have:∀ {names:aF} {n:Nat} {c:Addr},(x,c)∈GV n names []->(x,Ee.cell)∈names:=by
  intro names
  induction names with
  | nil=>intro n c h;cases h
  | cons p r ih=>
   obtain ⟨y,k⟩:=p;intro n c h;unfold GV at h
   split at h
   ·rename_i hk
    rw [bT] at h
    rcases EG.mp h with h | h
    ·exact .tail _ (ih h)
    ·rw [EJ] at h
     cases h
     rw [beq_iff_eq.mp hk,];exact .head _
   ·exact .tail _ (ih h)
 cases e:(GV n names []).lookup x with
 | none=>rfl
 | some c=>
  have' h1:=dR nd (this (bG e));have h2:=dR nd hx
  rw [h1] at h2;cases h2
section
variable {C:Cx} {lv:Lv} {N:aF} {ρ ρ₁ ρ₂ ρ₃ ρ' ρ₀:aO} {σ σ₁ σ₂ σ₃ σ':aC} {o:Out} {a b:AV} {A:Around} {env:Env} {μ μ':Mu} {s s':Shared}
theorem j9 {elt:Expr} {gens gs':List Eu} {g:Eu} {scope:Scope} {pos cpos:Pos} {ls:List Nat} {items:List AV} {ds:List PyData} (hgens:gens=g :: gs') (okn:dc scope.names) (hk:scope.kind=.function)
  (haa:∀ g∈gens,g.is_async=0) (hi:gO C lv N g.target g.iter ls ρ σ items ρ₁ σ₁) (hf:∀ env x,Fu g.iter env x=pure x)
  (hfr:cH N scope.names) (hcl:gT N ρ₁ scope.names ρ') (hbl:cM scope.names ρ₀) (hc:Cl C {lv with fz:=ls++lv.fz} scope.names elt σ₁ gens items ρ' ds) (hz:ds.length<=FI)
  {use:Option (Value->Sem Unit)} {Q:Value->Shared->Prop} {E:Value->Shared->Prop} (ok:C.Ok) (G:aX C lv A μ σ s) (F:aM A N env μ ρ s.heap)
  (hQ:∀ D μ' s' L,aS C lv A N env μ s ρ₁ σ₁ μ' s'->af μ' s'.heap (.dat (.list ds)) (.ref D)->L∈μ'.hid->L∉μ'.foot->L≠env.locals->(∀ p∈env.cells,p.2≠L)->(∃ m,s'.heap.Ns L m)->s.heap.objs.size<=L->L≠D->aS C lv A N env μ s ρ₁ (σ₁++[.list (ds.map .dat)]) (μ'.add D [D]) s'->af (μ'.add D [D]) s'.heap (.ref σ₁.length) (.ref D)->
   compPost (model C.prog C.w) A E use Q (.ref D) L (.ok .next) s') :
  wpAny (model C.prog C.w) A (Js (.ListComp elt gens scope pos) scope env cpos (Lq []) false (eval g.iter env) use) Q E s:=by
 obtain ⟨cl,hclos,hc1,hc2⟩:=rl (scope:=scope) (env:=env) fun x hx=>(hfr.mem x hx).elim (fun h=>F.cellsIn _ h (.inl rfl)) fun h=>F.cellsIn _ h (.inr rfl)
 refine wpAny_comprehension_free (g:=g) (gs:=gs') (by rw [hgens];rfl) (hf env) hclos hk (fun x hx hl=>by have:=dR (k:=x.2) (x:=x.1) okn.nodup hx;rw [hl] at this;exact this) ?_
 refine hi A env μ s _ _ ok G F fun I μ1 s1 P1 hIt=>?_
 refine G8 ?_
 have k12:aL A0 NoW s1 {s1 with heap:=s1.heap.push {cls:=.type "list",dict:=none,data:=.seq ([]:List Value).toArray}}:=bD _ _
 have P2:=aS.hide (l:=[s1.heap.objs.size]) P1.good P1.fr k12 fun b hb=>by rw [EJ.mp hb];exact ⟨EK _,by show _<(HY _ _).objs.size;rw [EU];exact E6 _⟩
 generalize hs2:({s1 with heap:=s1.heap.push {cls:=.type "list",dict:=none,data:=.seq ([]:List Value).toArray}}:Shared)=s2 at P2 k12 ⊢
 have hz2:s2.heap.objs.size=s1.heap.objs.size+1:=by rw [<- hs2];exact EU ..
 have hD0:s2.heap.PlainList s1.heap.objs.size #[]:=by rw [<- hs2];exact ⟨_,ES _ rfl⟩
 generalize hDD:s1.heap.objs.size=D at P2 hD0
 refine ef fun cenv hcenv=>?_
 refine ED (EI (EI ?_))
 have e1:cenv.locals=s2.heap.objs.size:=by rw [hcenv];rfl
 have e2:cenv.cells=GV (s2.heap.objs.size+1) scope.names cl:=by rw [hcenv];rfl
 have hce:∀ p∈cl,p∈env.cells:=fun p hp=>bG (hc1 p hp).1
 have hclosed:nX scope.names cl (μ1.hide [D]) s2.heap:=⟨fun p hp=>let ⟨a,b,_,v,d⟩:=P2.fr.cells p (hce p hp);⟨a,b,v,d⟩,fun p hp q hq e=>P2.fr.apart p (hce p hp) q (hce q hq) e,fun x hx=>let ⟨c,h⟩:=hc2 x hx;dp h⟩
 obtain ⟨G3,F3,x3,k3⟩:=je (cls := "dict") (env':={cenv with scope:=JO scope env}) P2.good okn hclosed hbl e1 e2 (by rw [hcenv];exact F.glob) (by rw [hcenv];exact F.blt) hk (lV rfl okn.nodup) (by rw [hcenv];exact F.fe)
 generalize hs3:({s2 with heap:=bY s2.heap "dict" scope.names}:Shared)=s3 at G3 k3
 have' hh3:bY s2.heap "dict" scope.names=s3.heap:=by rw [<- hs3]
 rw [hh3] at F3
 rw [show (if (some env:Option Env).isSome=true then "dict" else "frame")="dict" from rfl,hs3]
 generalize hm3:(μ1.hide [D]).hide (dA s2.heap.objs.size scope.names)=μ3 at G3 F3 x3
 have k13:aL A0 NoW s1 s3:=k12.trans k3 fun zz h=>h.elim
 have x13:Ext μ1 μ3 s1.heap.objs.size:=P2.ext.trans x3 k12.le
 have' F3':aM A scope.names {cenv with scope:=JO scope env} μ3 ρ' s3.heap:=by
  obtain ⟨m,hn,hv⟩:=F3.vals;refine ⟨F3.fn,F3.glob,F3.blt,F3.nodup,F3.plain,F3.kinds,F3.hidL,F3.freeL,F3.cellsIn,F3.cells,F3.apart,F3.fe,m,hn,hcl.vars fun x a hx l=>?_⟩
  obtain ⟨l1,l2⟩:=l.load;obtain ⟨m1,hn1,hv1⟩:=P1.fr.vals;obtain ⟨v,r,q⟩:=l1.var hv1;have' hcx:∃ c,env.cells.lookup x=some c/\s1.heap.IsCell c (some v):=by
   rcases q with ⟨q,_⟩ | ⟨_,q⟩
   ·rcases l2 with h | h
    ·rcases F.kinds _ h with e | e
     ·rw [q] at e;cases e
     ·cases e.1
    ·rcases F.kinds _ h with e | e
     ·rw [q] at e;cases e
     ·rw [q] at e;cases e.2
   ·exact q
  obtain ⟨c,hc,hcv⟩:=hcx;refine ⟨v,af.mono x13 k13 noW r,.inr ⟨?_,c,?_,hcv.keeps k13.up⟩⟩
  ·rcases F3.kinds _ hx with e | e
   ·exact .inr e
   ·exact .inl e.2
  ·show cenv.cells.lookup x=some c
   rw [e2,bT,List.lookup_append,l9 okn.nodup hx]
   obtain ⟨c',hc'⟩:=hc2 x hx;obtain ⟨d,hd⟩:=dp hc';have:=(hc1 _ (bG hd)).1
   rw [hc] at this
   cases this
   exact hd
 obtain ⟨fp,wr,PP,St,W,st0,hlt,hfp,hwr,hfh,hP⟩:=hIt
 have hbase:∀ b∈wr,b<s1.heap.objs.size:=fun b hb=>hlt b (W.sub b hb)
 have hDs:D=s1.heap.objs.size:=hDD.symm
 have' WSn:∀ b,WS μ3 scope.names {cenv with scope:=JO scope env} b->WC μ1 b\/s2.heap.objs.size<=b:=fun b hb=>by
  rw [<- hm3] at hb
  exact nw (env':={cenv with scope:=JO scope env}) P2.good okn.nodup e1 e2 hb
 have hG4:=G3.fz (ls++lv.fz)
 have hF4:=F3'.fz (ls++lv.fz)
 have hfz1:μ1.fz=lv.fz:=P1.good.frz
 have hDlt:D<s3.heap.objs.size:=by
  have' l1:=leA k3.le;have:D<s2.heap.objs.size:=by rw [hz2,hDs];exact E6 _
  exact E8 this l1
 have WSn4:∀ b,WS {μ3 with fz:=ls++lv.fz} scope.names {cenv with scope:=JO scope env} b->WC {μ1 with fz:=ls++μ1.fz} b\/s2.heap.objs.size<=b:=fun b hb=>by
  rcases hb with ⟨i,p,hp,hi',hb'⟩ | hb
  ·refine .inl ⟨i,p,?_,by rw [hfz1];exact hi',hb'⟩
   rw [<- hm3] at hp
   exact hp
  ·rcases WSn b (.inr hb) with h | h
   ·rcases hb with rfl | ⟨x,hx,hlx⟩
    ·exact .inr (by show s2.heap.objs.size<=cenv.locals;rw [e1];exact EK _)
    ·right
     rw [<- hm3] at hF4
     rcases nw (env':={cenv with scope:=JO scope env}) (μ:={μ1.hide [D] with objs:=[]}) (σ:=[]) (l:=[]) (closure:=cl) (scope:=scope) (s:=s2) (b:=b) ⟨P2.good.quiet,P2.good.frz,P2.good.room,P2.good.units,P2.good.top,P2.good.base,P2.good.low,P2.good.lt,⟨rfl,fun i p o h=>by simp at h,fun b h=>by simp [Mu.foot] at h,.nil,fun p h=>nomatch h⟩,⟨let ⟨l,e,Hl⟩:=P2.good.frs.all;⟨l,e,fun e' hm=>let ⟨a,L,hL,b1,_,r⟩:=Hl e' hm;⟨a,L,hL,b1,by simp [Mu.foot],r⟩⟩⟩⟩ okn.nodup e1 e2 (.inr (.inr ⟨x,hx,hlx⟩)) with h | h
     ·obtain ⟨i,p,hp,_⟩:=h;simp at hp
     ·exact h
   ·exact .inr h
 have hIM:iL C A scope.names g.target {cenv with scope:=JO scope env} {μ3 with fz:=ls++lv.fz} s3.heap I D wr items:=by
  refine ⟨fp,PP,St,items,0,W,W.frame 0 _ _ st0 fun b hb o e=>k13.up b o e,En _,rfl,fun b hb=>⟨E8 (hlt b hb) k13.le,fun q=>?_,fun q=>?_,(hfp b hb).2⟩,fun b hb=>⟨x13.sub _ (hwr b hb).1,fun q=>?_,fun q=>?_,fun p hp q=>?_⟩,fun j v a n h' μ'' e p hn m=>hP j v a n h' μ'' e p hn (((Mov.of x13 k13 noW).eqR (b':={μ3 with fz:=ls++lv.fz}) rfl rfl).trans m)⟩
  ·rcases WSn4 b q with q | q
   ·exact (hfp b hb).1 (.inl q)
   ·exact E5 _ (E8 (hlt b hb) (EH k12.le q))
  ·have:=ltA (hlt b hb);rw [q,hDs] at this;exact E5 _ this
  ·rcases x13.foot b q with q | q
   ·exact (hwr b hb).2.1 q
   ·exact absurd (hbase b hb) (E3.mpr q)
  ·have:b=s2.heap.objs.size:=q.trans e1
   exact E5 _ (E8 (this▸hbase b hb) k12.le)
  ·have hp':p∈GV (s2.heap.objs.size+1) scope.names cl:=e2▸hp
   rw [bT] at hp'
   rcases EG.mp hp' with h | h
   ·have okc:=JN scope.names (s2.heap.push {cls:=.type "dict",data:=.dict #[]}) (s2.heap.objs.size+1) [] ⟨fun zz zz hm=>(nomatch hm),HQ.nil⟩ (by rw [EU];exact EK _)
    rw [EU] at okc
    have l1:=leA (okc.empty p.1 p.2 h).2;have:=ltA (hbase b hb);rw [q] at l1;omega
   ·obtain ⟨_,_,_,v,hv⟩:=F.cells p (hce p h)
    have l1:=ltA hv.lt;have l2:=leA (hwr b hb).2.2
    rw [q] at l1;omega
 have hAcc:Acc C {cenv with scope:=JO scope env} {μ3 with fz:=ls++lv.fz} s3.heap D []:=by
  have' hDf:D∉μ3.foot:=fun q=>by
   have e:μ3.foot=μ1.foot:=by rw [<- hm3];rfl
   rw [e] at q
   exact absurd (P1.good.lt _ (P1.good.sim.foot _ q)) (E3.mpr (Ec hDs.symm))
  refine ⟨by rw [<- hm3];exact EG.mpr (.inr (.head _)),hDf,fun q=>?_,fun p hp q=>?_,#[],[],?_,.nil⟩
  ·have:D=s2.heap.objs.size:=q.trans e1
   rw [hz2,hDs] at this;exact absurd this (FG (E6 _))
  ·have hp':p∈GV (s2.heap.objs.size+1) scope.names cl:=e2▸hp
   rw [bT] at hp'
   rcases EG.mp hp' with h | h
   ·have okc:=JN scope.names (s2.heap.push {cls:=.type "dict",data:=.dict #[]}) (s2.heap.objs.size+1) [] ⟨fun zz zz hm=>(nomatch hm),HQ.nil⟩ (by rw [EU];exact EK _)
    rw [EU] at okc
    have l1:=leA (okc.empty p.1 p.2 h).2
    rw [q] at l1;omega
   ·obtain ⟨_,_,_,v,hv⟩:=P1.fr.cells p (hce p h)
    have l1:=ltA hv.lt
    rw [q,hDs] at l1;exact E5 _ l1
  ·obtain ⟨n,e⟩:=hD0;exact ⟨n,k3.up _ _ e⟩
 let RR:Result->Shared->Prop:=compPost (model C.prog C.w) A E use Q (.ref D) cenv.locals
 have loop:GR (model C.prog C.w) A (.compLoop (.ListComp elt gens scope pos) 0 (.ref I) (.ref D) {cenv with scope:=JO scope env}) RR s3:=by
  refine uP haa ok hc (depth:=0) rfl ⟨_,_,hgens,hIM⟩ hG4 hF4 hAcc (by simpa using hz) fun μ5 s5 g5 f5 x5 k5 a5=>?_
  have hfz5:μ5.fz=ls++lv.fz:=g5.frz;have x35:Ext μ3 μ5 s3.heap.objs.size:=⟨x5.grow,x5.sub,x5.new⟩;have x15:Ext μ1 μ5 s1.heap.objs.size:=x13.trans x35 k13.le
  let μt:Mu:=μ1.hide (dA s2.heap.objs.size scope.names)
  have hnew:∀ b∈dA s2.heap.objs.size scope.names,s2.heap.objs.size<=b:=fun b hb=>by
   rcases EV.mp hb with rfl | hb
   ·exact EK _
   ·obtain ⟨p,hp,rfl⟩:=EO.mp hb
    have okc:=JN scope.names (s2.heap.push {cls:=.type "dict",data:=.dict #[]}) (s2.heap.objs.size+1) [] ⟨fun zz zz hm=>(nomatch hm),HQ.nil⟩ (by rw [EU];exact EK _)
    rw [EU] at okc
    exact G6 (okc.empty p.1 p.2 hp).2
  have hle2:s1.heap.objs.size<=s2.heap.objs.size:=k12.le;have mid:Mid μ1 μt {μ5 with fz:=lv.fz}:=⟨rfl,rfl,fun b hb=>EG.mpr (.inr hb),fun b hb=>by
   rcases EG.mp hb with h | h
   ·refine x35.sub b ?_
    rw [<- hm3];exact EG.mpr (.inl h)
   ·exact x15.sub b h⟩
  let WW:Addr->Prop:=fun b=>WC μ1 b\/s1.heap.objs.size<=b\/b∈wr
  have k15:aL A WW s1 s5:=(k13.lift (W:=WW)).trans k5 fun b hb=>by
   rcases hb with q | rfl | q
   ·rcases WSn4 b q with q | q
    ·obtain ⟨i,p,hp,hi',hb'⟩:=q
     exact .inl (.inl ⟨i,p,hp,fun z=>hi' (EG.mpr (.inr z)),hb'⟩)
    ·exact .inr (EH hle2 q)
   ·exact .inr (Ec hDs.symm)
   ·exact .inl (.inr (.inr q))
  have WWh:∀ b,WW b\/FA A b->b∈μ1.hid\/s1.heap.objs.size<=b:=P1.good.fw fun b hb=>by
   rcases hb with q | q | q
   ·exact .inl (P1.good.sim.foot b (WC.foot q))
   ·exact .inr q
   ·exact .inl (hwr b q).1
  have xt:Ext μ1 μt s1.heap.objs.size:=fW fun b hb=>EH hle2 (hnew b hb)
  have Gt:aX C lv A μt σ₁ s5:=P1.good.forget (t:=[]) (μ':={μ5 with fz:=lv.fz}) ⟨x15.grow,x15.sub,x15.new⟩ mid k15 (by rw [FH];exact g5.fz lv.fz)
  have' Ft:aM A N env μt ρ₁ s5.heap:=P1.fr.ext xt k15 WWh (fun q=>by
    rcases q with q | q | q
    ·exact P1.fr.freeL (WC.foot q)
    ·exact absurd (P1.good.lt _ P1.fr.hidL) (E3.mpr q)
    ·exact absurd (G.lt _ F.hidL) (E3.mpr (hwr _ q).2.2)) fun p hp q=>by
    rcases q with q | q | q
    ·exact (P1.fr.cells p hp).2.1 (WC.foot q)
    ·exact absurd (P1.good.lt _ (P1.fr.cells p hp).1) (E3.mpr q)
    ·exact absurd (G.lt _ (F.cells p hp).1) (E3.mpr (hwr _ q).2.2)
  have Pt:aS C lv A N env μ s ρ₁ σ₁ μt s5:=⟨G.frz,Gt,Ft,P1.ext.trans xt P1.kept.le,P1.kept.trans k15 fun b hb=>by
   rcases hb with q | q | q
   ·rcases WC.ext P1.ext (hfz1.trans G.frz.symm) q with q | q
    ·exact .inl (.inl q)
    ·exact .inr q
   ·exact .inr (EH P1.kept.le q)
   ·exact .inr (hwr b q).2.2⟩
  have' hDt:D∉μt.hid:=fun q=>by
   rcases EG.mp q with q | q
   ·have l1:=leA (hnew _ q)
    have l2:D=s1.heap.objs.size:=hDs
    rw [hz2,<- hDs] at l1
    exact absurd l1 (Il.mpr (E6 _))
   ·exact absurd (P1.good.lt _ q) (E3.mpr (Ec hDs.symm))
  obtain ⟨ys,bs,⟨n,hp5⟩,rd5⟩:=a5.rd;have' rv:af μt s5.heap (.dat (.list ds)) (.ref D):=⟨_,.list (Fc _ hp5 hDt) rfl rfl (PyProof.Rows.ReadsAll.keeps (hU mid.sub) rd5)⟩;obtain ⟨m5,hn5,_⟩:=f5.vals;refine hQ D μt s5 cenv.locals Pt rv (EG.mpr (.inl (by rw [e1];exact .head _))) (fun q=>?_) (fun q=>?_) (fun p hp q=>?_) ⟨m5,hn5⟩ (by rw [e1];exact EH P1.kept.le hle2) (fun q=>?_) ?_ ⟨_,by show (μ1.objs++[(D,[D])])[σ₁.length]? = _;rw [<- P1.good.sim.len];exact EY,rfl⟩
  ·have l1:=ltA (P1.good.lt _ (P1.good.sim.foot _ q))
   rw [e1,hz2] at l1;omega
  ·have l1:=ltA (P1.good.lt _ P1.fr.hidL)
   rw [<- q,e1,hz2] at l1;omega
  ·have l1:=ltA (P1.good.lt _ (P1.fr.cells p hp).1)
   rw [q,e1,hz2] at l1;omega
  ·have:s2.heap.objs.size=D:=e1.symm.trans q
   rw [hz2,hDs] at this;exact absurd this (Ij _)
  ·
   have midD:Mid μ1 (μt.hide [D]) {μ5 with fz:=lv.fz}:=⟨rfl,rfl,fun b hb=>EG.mpr (.inr (mid.sup b hb)),fun b hb=>by
    rcases EG.mp hb with h | h
    ·rw [EJ.mp h];exact a5.hid
    ·exact mid.sub b h⟩
   have' hDf1:D∉μ1.foot:=fun q=>absurd (P1.good.lt _ (P1.good.sim.foot _ q)) (E3.mpr (Ec hDs.symm))
   have GD:aX C lv A (μt.hide [D]) σ₁ s5:=P1.good.forget (t:=[]) (μ':={μ5 with fz:=lv.fz}) ⟨x15.grow,x15.sub,x15.new⟩ midD k15 (by rw [FH];exact g5.fz lv.fz)
   have' hfaD:¬ FA A D:=fun q=>absurd (P1.good.lt _ (P1.good.frs.fa q).1) (E3.mpr (Ec hDs.symm))
   have xD:Ext μ1 (μt.add D [D]) s1.heap.objs.size:=⟨⟨[(D,[D])],rfl,fun p hp b hb=>by rw [EJ.mp hp] at hb;rw [EJ.mp hb];exact Ec hDs.symm⟩,fun b hb=>EG.mpr (.inr (mid.sup b hb)),fun b hb=>by
    rcases EG.mp hb with h | h
    ·rw [EJ.mp h];exact .inr (Ec hDs.symm)
    ·exact xt.new b h⟩
   have' GD':aX C lv A (μt.add D [D]) (σ₁++[.list (ds.map .dat)]) s5:=GD.adopt (EG.mpr (.inl (.head _))) hDf1 hfaD ⟨rfl,ys,⟨n,hp5⟩,jO (PyProof.Rows.ReadsAll.keeps (hU midD.sub) rd5)⟩;have' FD:aM A N env (μt.add D [D]) ρ₁ s5.heap:=P1.fr.ext xD k15 WWh (fun q=>by
    rcases q with q | q | q
    ·exact P1.fr.freeL (WC.foot q)
    ·exact absurd (P1.good.lt _ P1.fr.hidL) (E3.mpr q)
    ·exact absurd (G.lt _ F.hidL) (E3.mpr (hwr _ q).2.2)) fun p hp q=>by
    rcases q with q | q | q
    ·exact (P1.fr.cells p hp).2.1 (WC.foot q)
    ·exact absurd (P1.good.lt _ (P1.fr.cells p hp).1) (E3.mpr q)
    ·exact absurd (G.lt _ (F.cells p hp).1) (E3.mpr (hwr _ q).2.2)
   exact ⟨G.frz,GD',FD,P1.ext.trans xD P1.kept.le,Pt.kept⟩
 have hg0:gens[0]? = some g:=by rw [hgens];rfl
 exact kZ hg0 (haa g (EN hg0)) loop (W.self 0 s3 _ _ (W.frame 0 _ _ st0 fun b hb o e=>k13.up b o e) loop)
end
structure jU (gens:List Eu) (scope:Scope):Prop where
 names:dc scope.names
 kind:scope.kind=.function
 sync:∀ g∈gens,g.is_async=0
noncomputable def yY (gens:List Eu):Bool:=gens.all fun g=>g.is_async==0
theorem jU.of {gens:List Eu} {scope:Scope} (h1:dc scope.names) (h2:scope.kind=.function) (h3:yY gens=true):jU gens scope:=by
 have h:=GW.mp h3
 exact ⟨h1,h2,fun g hg=>by simpa using h g hg⟩
section
variable {C:Cx} {lv:Lv} {N:aF} {ρ ρ₁ ρ₂ ρ₃ ρ' ρ₀:aO} {σ σ₁ σ₂ σ₃ σ':aC} {o:Out} {a b:AV} {A:Around} {env:Env} {μ μ':Mu} {s s':Shared}
theorem qe {L:Addr} {v:Value} {h':Heap} (P:aS C lv A N env μ s ρ σ' μ' s') (r:af μ' s'.heap a v) (h1:L∈μ'.hid) (h2:L∉μ'.foot) (h3:L≠env.locals) (h4:∀ p∈env.cells,p.2≠L) (hL:s.heap.objs.size<=L) (hfa:¬ FA A L) (sb:G7 L s'.heap h') :
  aS C lv A N env μ s ρ σ' μ' {s' with heap:=h'}/\af μ' h' a v:=by
 have k:aL A (· = L) s' {s' with heap:=h'}:=⟨h',_,_,rfl,⟨Ec sb.1.symm,id⟩,fun b o hb e=>.inl ((sb.2 b hb).trans e)⟩
 have hW:∀ b,b=L\/FA A b->b∈μ'.hid\/s'.heap.objs.size<=b:=P.good.fw fun b hb=>hb▸.inl h1
 exact ⟨⟨P.fz0,P.good.turn k (fun b hb=>hb▸h1) (fun b hb=>hb▸h2) (fun b hf hb=>absurd (hb▸hf) hfa),P.fr.ext (s':={s' with heap:=h'}) (Ext.refl _ _) k hW (fun q=>h3 q.symm) (fun p hp q=>h4 p hp q),P.ext,P.kept.trans k fun b hb=>.inr (hb▸hL)⟩,
  af.mono (s':={s' with heap:=h'}) (Ext.refl _ _) k hW r⟩
theorem dN {elt:Expr} {gs':List Eu} {g:Eu} {scope:Scope} {pos:Pos} {ls:List Nat} {items:List AV} {ds:List PyData} (ck:jU (g :: gs') scope) (hi:gO C lv N g.target g.iter ls ρ σ items ρ₁ σ₁)
  (hfr:cH N scope.names) (hcl:gT N ρ₁ scope.names ρ') (hbl:cM scope.names ρ₀) (hc:Cl C {lv with fz:=ls++lv.fz} scope.names elt σ₁ (g :: gs') items ρ' ds) (hz:ds.length<=FI) (hf:autoParam (∀ env x,Fu g.iter env x=pure x) aJ) :
  aG C lv N (.ListComp elt (g :: gs') scope pos) ρ σ (.dat (.list ds)) ρ₁ σ₁:=by
 intro A env μ s Q E ok G F hQ
 have hz0:g.is_async=0:=ck.sync g (.head _)
 have' e:eval (.ListComp elt (g :: gs') scope pos) env=Js (.ListComp elt (g :: gs') scope pos) scope env (LW (g :: gs') pos) (Lq []) (JZ (g :: gs')) (KB (g :: gs') env):=rfl
 have ha:JZ (g :: gs')=false:=by obtain ⟨t,i,f,n⟩:=g;dsimp only at hz0;subst hz0;rfl
 have hi':KB (g :: gs') env=eval g.iter env:=by obtain ⟨t,i,f,n⟩:=g;rfl
 rw [e,ha,hi']
 refine j9 rfl ck.names ck.kind ck.sync hi hf hfr hcl hbl hc hz ok G F fun D μ1 s1 L P1 rv h1 h2 h3 h4 hn hL hLD PD rD=>?_
 obtain ⟨m,hn⟩:=hn
 refine ⟨m,hn,fun h' sb=>?_⟩
 obtain ⟨P2,r2⟩:=qe P1 rv h1 h2 h3 h4 hL (fun q=>absurd (G.lt _ (G.frs.fa q).1) (E3.mpr hL)) sb
 exact hQ _ _ _ P2 r2
theorem ud {elt:Expr} {gs':List Eu} {g:Eu} {scope:Scope} {pos:Pos} {ls:List Nat} {items:List AV} {ds:List PyData} (ck:jU (g :: gs') scope) (hi:gO C lv N g.target g.iter ls ρ σ items ρ₁ σ₁)
  (hfr:cH N scope.names) (hcl:gT N ρ₁ scope.names ρ') (hbl:cM scope.names ρ₀) (hc:Cl C {lv with fz:=ls++lv.fz} scope.names elt σ₁ (g :: gs') items ρ' ds) (hz:ds.length<=FI) (hf:autoParam (∀ env x,Fu g.iter env x=pure x) aJ) :
  aG C lv N (.ListComp elt (g :: gs') scope pos) ρ σ (.ref σ₁.length) ρ₁ (σ₁++[.list (ds.map .dat)]):=by
 intro A env μ s Q E ok G F hQ
 have hz0:g.is_async=0:=ck.sync g (.head _)
 have' e:eval (.ListComp elt (g :: gs') scope pos) env=Js (.ListComp elt (g :: gs') scope pos) scope env (LW (g :: gs') pos) (Lq []) (JZ (g :: gs')) (KB (g :: gs') env):=rfl
 have ha:JZ (g :: gs')=false:=by obtain ⟨t,i,f,n⟩:=g;dsimp only at hz0;subst hz0;rfl
 have hi':KB (g :: gs') env=eval g.iter env:=by obtain ⟨t,i,f,n⟩:=g;rfl
 rw [e,ha,hi']
 refine j9 rfl ck.names ck.kind ck.sync hi hf hfr hcl hbl hc hz ok G F fun D μ1 s1 L P1 rv h1 h2 h3 h4 hn hL hLD PD rD=>?_
 obtain ⟨m,hn⟩:=hn
 refine ⟨m,hn,fun h' sb=>?_⟩
 have' h2':L∉(μ1.add D [D]).foot:=fun q=>by
  have:L∈μ1.foot\/L=D:=by simpa [Mu.foot,Mu.add] using q
  exact this.elim h2 hLD
 obtain ⟨P2,r2⟩:=qe PD rD (EG.mpr (.inr h1)) h2' h3 h4 hL (fun q=>absurd (G.lt _ (G.frs.fa q).1) (E3.mpr hL)) sb
 exact hQ _ _ _ P2 r2
theorem eB {t:Expr} {elt:Expr} {gs':List Eu} {g:Eu} {scope:Scope} {pos spos:Pos} {ls:List Nat} {items:List AV} {ds:List PyData} (ck:jU (g :: gs') scope) (hi:gO C lv N g.target g.iter ls ρ σ items ρ₁ σ₁)
  (hfr:cH N scope.names) (hcl:gT N ρ₁ scope.names ρ') (hbl:cM scope.names ρ₀) (hc:Cl C {lv with fz:=ls++lv.fz} scope.names elt σ₁ (g :: gs') items ρ' ds) (hz:ds.length<=FI) (ht:ci C lv N t (.dat (.list ds)) ρ₁ σ₁ ρ₂ σ₂)
  (hsw:∀ env,∃ b,Jr [t] (.ListComp elt (g :: gs') scope pos) spos.line env=pure b) (hf:autoParam (∀ env x,Fu g.iter env x=pure x) aJ)
  (he:autoParam (∀ env,(IJ [t] env).map (·.2)=[assign t env]) aI) (hw:autoParam (∀ env,Io [t] (.ListComp elt (g :: gs') scope pos) env=pure none) aI) :
  aq C lv N (.Assign [t] (.ListComp elt (g :: gs') scope pos) spos) ρ σ .nxt ρ₂ σ₂:=by
 intro A env μ s Q E ok G F hQ
 obtain ⟨b,hb⟩:=hsw env
 cases b with
 | false=>
  refine JJ ?_ hb (hw env)
  rw [he]
  exact dN ck hi hfr hcl hbl hc hz hf A env μ s _ _ ok G F fun v μ1 s1 P1 r=>ht A env μ1 s1 v _ _ ok P1.good P1.fr r fun μ2 s2 P2=>hQ _ μ2 s2 (P1.trans P2) rfl
 | true=>
  rw [exec_Assign_arm]
  refine ED (FT ?_)
  rw [hb]
  refine ED (EI ?_)
  rw [if_pos rfl]
  have hz0:g.is_async=0:=ck.sync g (.head _);have ha:JZ (g :: gs')=false:=by obtain ⟨t,i,f,n⟩:=g;dsimp only at hz0;subst hz0;rfl
  have hi':KB (g :: gs') env=eval g.iter env:=by obtain ⟨t,i,f,n⟩:=g;rfl
  have e2:evalThenUse (.ListComp elt (g :: gs') scope pos) env (fun v=>assignAll v ((IJ [t] env).map (·.2)))=(do
    let _ <- Js (.ListComp elt (g :: gs') scope pos) scope env (LW (g :: gs') pos) (Lq []) (JZ (g :: gs')) (KB (g :: gs') env) (some fun v=>assignAll v ((IJ [t] env).map (·.2)))):=rfl
  rw [e2]
  refine ED ?_
  rw [ha,hi',he]
  refine ED (j9 rfl ck.names ck.kind ck.sync hi hf hfr hcl hbl hc hz ok G F fun D μ1 s1 L P1 rv h1 h2 h3 h4 hn hL hLD PD rD=>?_)
  obtain ⟨m,hn⟩:=hn
  show wpAny _ _ (assign t env (.ref D)) _ _ _
  refine ht A env μ1 s1 _ _ _ ok P1.good P1.fr rv fun μ2 s2 P2=>?_
  have' P12:=P1.trans P2;have' l2:¬ WS μ1 N env L:=by
   rintro (⟨i,p,hp,_,hb'⟩ | e | ⟨y,_,hl⟩)
   ·exact h2 (aj (EN hp) hb')
   ·exact h3 e
   ·exact h4 (y,L) (bG hl) rfl
  have hn2:s2.heap.Ns L m:=let ⟨o,es,ep,e,d,r⟩:=hn;let ⟨o',e',d'⟩:=P2.kept.like l2 e;⟨o',es,ep,e',d'.trans d,r⟩
  refine ⟨m,hn2,fun h' sb=>?_⟩
  have' h2':L∉μ2.foot:=fun q=>(P2.ext.foot L q).elim h2 fun z=>absurd (P1.good.lt L h1) (E3.mpr z)
  obtain ⟨P3,_⟩:=qe (a:=.con .none) P12 (rfl:af μ2 s2.heap (.con .none) .none) (P2.ext.sub L h1) h2' h3 h4 hL (fun q=>absurd (G.lt _ (G.frs.fa q).1) (E3.mpr hL)) sb
  exact EI (EI (hQ _ _ _ P3 rfl))
theorem cT {α:Type} {elt:Expr} {g:Eu} {xs:List α} {v:α->AV} {p:α->Bool} {f:α->PyData} {r:α->aO} (ha:∀ x∈xs,ci C lv N g.target (v x) ρ σ (r x) σ) (ht:∀ x∈xs,jM C lv N g.ifs (r x) σ (p x))
  (he:∀ x∈xs,p x=true->aG C lv N elt (r x) σ (.dat (f x)) (r x) σ) (hs:∀ x∈xs,Sub (r x) ρ):Cl C lv N elt σ [g] (xs.map v) ρ ((xs.filter p).map f):=by
 induction xs with
 | nil=>exact .nil
 | cons x xs ih=>
  have ih:=ih (fun y hy=>ha y (.tail _ hy)) (fun y hy=>ht y (.tail _ hy)) (fun y hy=>he y (.tail _ hy)) fun y hy=>hs y (.tail _ hy)
  have ht:=ht x (.head _)
  rw [E9,Ex]
  cases hp:p x with
  | true=>rw [hp] at ht;exact .one (ha x (.head _)) ht (he x (.head _) hp) (hs x (.head _)) ih
  | false=>rw [hp] at ht;exact .skip (ha x (.head _)) ht (hs x (.head _)) ih
theorem cN {α:Type} {elt:Expr} {g:Eu} {xs:List α} {v:α->AV} {f:α->PyData} {r:α->aO} (hn:g.ifs=[]) (ha:∀ x∈xs,ci C lv N g.target (v x) ρ σ (r x) σ)
  (he:∀ x∈xs,aG C lv N elt (r x) σ (.dat (f x)) (r x) σ) (hs:∀ x∈xs,Sub (r x) ρ):Cl C lv N elt σ [g] (xs.map v) ρ (xs.map f):=by
 have:=cT (C:=C) (lv:=lv) (N:=N) (ρ:=ρ) (σ:=σ) (elt:=elt) (g:=g) (v:=v) (p:=fun zz=>true) (f:=f) ha (fun zz zz=>by rw [hn];exact mh) (fun x hx zz=>he x hx) hs
 rwa [GP.mpr fun zz zz=>rfl] at this
end
section
variable {C:Cx} {lv:Lv} {N:aF} {ρ ρ₁ ρ₂ ρ₃ ρ' ρ₀:aO} {σ σ₁ σ₂ σ₃ σ':aC} {o:Out} {A:Around} {env:Env} {μ μ':Mu} {s s':Shared}
section
variable {a b:Int}
theorem An {o:JY} (e:autoParam (o=.Add) aR):Op2 C (.int a) (.int b) (.int (a+b)) (Iy o):=by
 subst e
 exact .mk fun zz zz zz zz zz zz zz zz zz zz ru rv zz hQ=>by cases ru using RI;cases rv using RI;with_reducible exact PyProof.Rows.add_int (hQ _ _ _ (ae _) (.int _ _))
theorem AK {o:JY} (e:autoParam (o=.Sub) aR):Op2 C (.int a) (.int b) (.int (a - b)) (Iy o):=by
 subst e
 exact .mk fun zz zz zz zz zz zz zz zz zz zz ru rv zz hQ=>by cases ru using RI;cases rv using RI;with_reducible exact PyProof.Rows.sub_int (hQ _ _ _ (ae _) (.int _ _))
theorem Ay {o:JY} (hb:b≠0) (e:autoParam (o=.Mod) aR):Op2 C (.int a) (.int b) (.int (a.fmod b)) (Iy o):=by
 subst e
 exact .mk fun zz zz zz zz zz zz zz zz zz zz ru rv zz hQ=>by cases ru using RI;cases rv using RI;with_reducible exact PyProof.Rows.mod_int hb (hQ _ _ _ (ae _) (.int _ _))
theorem Af {o:JY} (hn:0<=b) (hsz:(Ep.Int.intBits a:Int) * b<=2 ^ 27) (e:autoParam (o=.Pow) aR):Op2 C (.int a) (.int b) (.int (a ^ b.toNat)) (Iy o):=by
 subst e
 exact .mk fun zz zz zz zz zz zz zz zz zz zz ru rv zz hQ=>by cases ru using RI;cases rv using RI;with_reducible exact pow_int hn hsz (hQ _ _ _ (ae _) (.int _ _))
theorem zR {o:JY} (hb:b≠0) (hp:Ep.divisionGoesByPylong a b=false) (e:autoParam (o=.FloorDiv) aR):Op2 C (.int a) (.int b) (.int (a.fdiv b)) (Iy o):=by
 subst e
 exact .mk fun zz zz zz zz zz zz zz zz zz zz ru rv zz hQ=>by cases ru using RI;cases rv using RI;with_reducible exact floordiv_int hb (hQ _ _ _ (ae _) (.int _ _)) (.inl hp)
theorem Bf {o:CmpOp} (e:autoParam (o=.Lt) aR):Op2 C (.int a) (.int b) (.bool (decide (a<b))) (Ff o):=by
 subst e
 exact .mk fun zz zz zz zz zz zz zz zz zz zz ru rv zz hQ=>by cases ru using RI;cases rv using RI;with_reducible exact PyProof.Rows.lt_int (hQ _ _ _ (aL.refl _ _ _) (.bool _))
theorem zm {o:CmpOp} (e:autoParam (o=.Gt) aR):Op2 C (.int a) (.int b) (.bool (decide (b<a))) (Ff o):=by
 subst e
 exact .mk fun zz zz zz zz zz zz zz zz zz zz ru rv zz hQ=>by cases ru using RI;cases rv using RI;with_reducible exact PyProof.Rows.gt_int (hQ _ _ _ (aL.refl _ _ _) (.bool _))
theorem Ba {o:CmpOp} (e:autoParam (o=.LtE) aR):Op2 C (.int a) (.int b) (.bool (decide (a<=b))) (Ff o):=by
 subst e
 exact .mk fun zz zz zz zz zz zz zz zz zz zz ru rv zz hQ=>by cases ru using RI;cases rv using RI;with_reducible exact PyProof.Rows.le_int (hQ _ _ _ (aL.refl _ _ _) (.bool _))
theorem tG {o:CmpOp} (e:autoParam (o=.GtE) aR):Op2 C (.int a) (.int b) (.bool (decide (b<=a))) (Ff o):=by
 subst e
 exact .mk fun zz zz zz zz zz zz zz zz zz zz ru rv zz hQ=>by cases ru using RI;cases rv using RI;with_reducible exact PyProof.Rows.ge_int (hQ _ _ _ (aL.refl _ _ _) (.bool _))
theorem r8 {o:CmpOp} (e:autoParam (o=.Eq) aR):Op2 C (.int a) (.int b) (.bool (a==b)) (Ff o):=by
 subst e
 exact .mk fun zz zz zz zz zz zz zz zz zz zz ru rv zz hQ=>by cases ru using RI;cases rv using RI;with_reducible exact PyProof.Rows.eq_int (hQ _ _ _ (aL.refl _ _ _) (.bool _))
theorem xF {o:CmpOp} (e:autoParam (o=.NotEq) aR):Op2 C (.int a) (.int b) (.bool (a != b)) (Ff o):=by
 subst e
 exact .mk fun zz zz zz zz zz zz zz zz zz zz ru rv zz hQ=>by cases ru using RI;cases rv using RI;with_reducible exact PyProof.Rows.ne_int (hQ _ _ _ (aL.refl _ _ _) (.bool _))
end
section
variable {a b:PyData}
theorem w8 {o:CmpOp} (ha:SeqAt.shaped a=true) (hb:SeqAt.shaped b=true) (e:autoParam (o=.Eq) aR):Op2 C a b (.bool (FF a b)) (Ff o):=by
 subst e
 exact .mk fun zz zz zz zz zz zz zz zz zz hu ru rv zz hQ=>
 PySem.SeqAt.compareEq_shaped (cP ru) (cP rv) ha hb (by omega) (hQ _ _ _ (aL.refl _ _ _) (.bool _))
theorem ir {o:CmpOp} (ha:SeqAt.shaped a=true) (hb:SeqAt.shaped b=true) (e:autoParam (o=.NotEq) aR):Op2 C a b (.bool (!FF a b)) (Ff o):=by
 subst e
 exact .mk fun zz zz zz zz zz zz zz zz zz hu ru rv zz hQ=>
 PySem.SeqAt.compareNe_shaped (cP ru) (cP rv) ha hb (by omega) (hQ _ _ _ (aL.refl _ _ _) (.bool _))
theorem fv {d:PyData} (h:SeqAt.shaped d=true):d.depth<=64:=SeqAt.depth_of_shaped h
theorem rJ {o:CmpOp} {xs:List PyData} (ha:SeqAt.shaped a=true) (hb:Fv xs=true) (e:autoParam (o=.In) aR):Op2 C a (.list xs) (.bool (xs.any fun y=>FF y a)) (Ff o):=by
 subst e
 exact .mk fun zz zz zz zz zz zz zz zz zz hu ru rv zz hQ=>
 SeqAt.in_list_reads (cP rv) (cP ru) hb (SeqAt.canLay_of_shaped ha) (by have:=fv ha;omega) (hQ _ _ _ (aL.refl _ _ _) (.bool _))
theorem fD {o:CmpOp} {xs:List PyData} (ha:SeqAt.shaped a=true) (hb:Fv xs=true) (e:autoParam (o=.NotIn) aR):Op2 C a (.list xs) (.bool (!xs.any fun y=>FF y a)) (Ff o):=by
 subst e
 exact .mk fun zz zz zz zz zz zz zz zz zz hu ru rv zz hQ=>
 SeqAt.notIn_list_reads (cP rv) (cP ru) hb (SeqAt.canLay_of_shaped ha) (by have:=fv ha;omega) (hQ _ _ _ (aL.refl _ _ _) (.bool _))
theorem pG {o:CmpOp} {xs:List PyData} (ha:SeqAt.shaped a=true) (hb:Fv xs=true) (e:autoParam (o=.In) aR):Op2 C a (.tuple xs) (.bool (xs.any fun y=>FF y a)) (Ff o):=by
 subst e
 exact .mk fun zz zz zz zz zz zz zz zz zz hu ru rv zz hQ=>
 SeqAt.in_tuple_reads (cP rv) (cP ru) hb (SeqAt.canLay_of_shaped ha) (by have:=fv ha;omega) (hQ _ _ _ (aL.refl _ _ _) (.bool _))
end
noncomputable def kj:PyData->Option Value
 | .none=>some .none
 | .bool b=>some (.bool b)
 | _=>none
theorem kI {b:PyData} {v w:Value} {h:Heap} {as:List Addr} (hb:kj b=some v) (rv:Reads h w b as):w=v:=by
 cases b with
 | none=>cases rv using RN;exact GF.inj hb
 | bool c=>cases rv using RB;exact GF.inj hb
 | _=>cases hb
theorem il {b:PyData} {v:Value} (hb:kj b=some v):v=.none\/∃ c,v=.bool c:=by
 cases b with
 | none=>exact .inl (GF.inj hb).symm
 | bool c=>exact .inr ⟨c,(GF.inj hb).symm⟩
 | _=>cases hb
set_option tactic.hygienic true in
theorem sr {a:PyData} {u v:Value} {h:Heap} {as:List Addr} (hv:v=.none\/∃ c,v=.bool c) (ru:Reads h u a as):PySem.plainIs u v=true/\(u==v)=decide (kj a=some v):=by
 rcases hv with rfl | ⟨c,rfl⟩
 ·cases ru<;>simp [PySem.plainIs,kj]
 ·cases ru<;>simp [PySem.plainIs,kj]
  rename_i b
  revert b c;decide
theorem xO {o:CmpOp} {a b:PyData} {v:Value} (hb:kj b=some v) (e:autoParam (o=.Is) aR):Op2 C a b (.bool (decide (kj a=some v))) (Ff o):=by
 subst e
 refine .mk ?_
 intro A hot u w s as bs Q E hu ru rv hh hQ
 obtain rfl:=kI hb rv
 have hp:=sr (il hb) ru
 exact I6 hp.1 (hQ _ _ [] (aL.refl _ _ _) (by rw [hp.2];exact .bool _))
theorem lE {o:CmpOp} {a b:PyData} {v:Value} (hb:kj b=some v) (e:autoParam (o=.IsNot) aR):Op2 C a b (.bool (!decide (kj a=some v))) (Ff o):=by
 subst e
 refine .mk ?_
 intro A hot u w s as bs Q E hu ru rv hh hQ
 obtain rfl:=kI hb rv
 have hp:=sr (il hb) ru
 exact Jh hp.1 (hQ _ _ [] (aL.refl _ _ _) (by rw [hp.2];exact .bool _))
theorem qc {v:Value} {l:Addr} (hv:v=.none\/∃ c,v=.bool c):PySem.plainIs (.ref l) v=true/\(Fj l==v)=false:=by
 rcases hv with rfl | ⟨c,rfl⟩<;>simp [PySem.plainIs]
theorem uK {o:CmpOp} {i:Nat} {b:PyData} {v:Value} (hb:kj b=some v) (e:autoParam (o=.Is) aR):OpG C lv σ (.ref i) (.dat b) (.bool false) (Ff o):=by
 subst e
 refine .mk ?_
 intro A μ u w s Q E _ G ru rv hQ
 obtain ⟨p,hp,rfl⟩:=ru
 obtain ⟨bs,rv⟩:=rv
 obtain rfl:=kI hb rv
 have hp:=qc (l:=p.1) (il hb)
 exact I6 hp.1 (hQ _ _ [] (aL.refl _ _ _) (by rw [hp.2];exact .bool _))
theorem nC {o:CmpOp} {i:Nat} {b:PyData} {v:Value} (hb:kj b=some v) (e:autoParam (o=.IsNot) aR):OpG C lv σ (.ref i) (.dat b) (.bool true) (Ff o):=by
 subst e
 refine .mk ?_
 intro A μ u w s Q E _ G ru rv hQ
 obtain ⟨p,hp,rfl⟩:=ru
 obtain ⟨bs,rv⟩:=rv
 obtain rfl:=kI hb rv
 have hp:=qc (l:=p.1) (il hb)
 exact Jh hp.1 (hQ _ _ [] (aL.refl _ _ _) (by rw [hp.2];exact .bool _))
theorem dW {b:Bool}:Tru C (.bool b) b:=fun zz zz zz zz zz zz zz r h=>by cases r using RB;exact HN (h _ (aL.refl _ _ _))
theorem kS:Tru C .none false:=fun zz zz zz zz zz zz zz r h=>by cases r using RN;exact truthy_none (h _ (aL.refl _ _ _))
theorem y9 {i:Int}:Tru C (.int i) (i != 0):=fun zz zz zz zz zz zz zz r h=>by cases r using RI;with_reducible exact PyProof.Rows.truthy_int (h _ (aL.refl _ _ _))
theorem jA {x:Str} (hz:(x.length:Int)<2 ^ 63):Tru C (.str x) ((x.length:Int) != 0):=fun zz zz zz zz zz zz zz r h=>by cases r using RS;with_reducible exact PySem.P.truthy_str (by omega) (h _ (ae _))
theorem fY {ds:List PyData} (hz:(ds.length:Int)<2 ^ 63):Tru C (.list ds) (!ds.isEmpty):=fun zz zz zz zz zz zz zz r h=>by
 cases r using RL with
 | @list a o vs n as ho hc hd hr=>
  have hlen:vs.size=ds.length:=a9 hr;have' he:vs.isEmpty=ds.isEmpty:=by
   rw [Array.isEmpty,hlen];cases ds<;>simp
  exact Ji ⟨o,Ez _ ho,hc,n,hd⟩ (by rw [hlen];exact hz) (by rw [he];exact h _ (ae _))
noncomputable def kT (as:List AV) (ds:List PyData):Prop:=as=ds.map .dat
theorem kT.nil:kT [] []:=rfl
theorem kT.cons {d:PyData} {as:List AV} {ds:List PyData} (h:kT as ds):kT (.dat d :: as) (d :: ds):=congrArg (AV.dat d :: ·) h
theorem kT.eq {as:List AV} {ds:List PyData} (h:kT as ds):as=ds.map .dat:=h
theorem vB {es:List Expr} {as:List AV} {ds:List PyData} {n:Nat} {pos:Pos} (h:jQ C lv N es ρ σ as ρ₁ σ₁) (hd:kT as ds) (hsz:autoParam (ds.length<=FI) aD):aG C lv N (.Tuple es n pos) ρ σ (.dat (.tuple ds)) ρ₁ σ₁:=fun A env μ s Q E ok G F hQ=>
 wpAny_Tuple ((hd.eq▸h) A env μ s pos _ _ ok G F fun vs μ1 s1 P1 r=>⟨by rw [bP r,EF];exact hsz,by
  obtain ⟨bs,r⟩:=fR r;have P2:=aS.grow P1.good P1.fr (bD {cls:=.type "tuple",data:=.seq vs.toArray} s1.toks);exact hQ _ μ1 _ (P1.trans P2) ⟨_,.tuple (Fc _ (ES _ rfl) fun hm=>E5 _ (P1.good.lt _ hm)) rfl rfl (PyProof.Rows.ReadsAll.keeps (cU (bD _ s1.toks)) (by simpa using r))⟩⟩)
theorem fT {es:List Expr} {as:List AV} {ds:List PyData} {pos:Pos} (h:jQ C lv N es ρ σ as ρ₁ σ₁) (hd:kT as ds) (hsz:autoParam (ds.length<=FI) aD):aG C lv N (.List es pos) ρ σ (.dat (.list ds)) ρ₁ σ₁:=fun A env μ s Q E ok G F hQ=>
 wpAny_List ((hd.eq▸h) A env μ s pos _ _ ok G F fun vs μ1 s1 P1 r=>⟨by rw [bP r,EF];exact hsz,by
  obtain ⟨bs,r⟩:=fR r;have P2:=aS.grow P1.good P1.fr (bD {cls:=.type "list",data:=.seq vs.toArray} s1.toks);exact hQ _ μ1 _ (P1.trans P2) ⟨_,.list (Fc _ (ES _ rfl) fun hm=>E5 _ (P1.good.lt _ hm)) rfl rfl (PyProof.Rows.ReadsAll.keeps (cU (bD _ s1.toks)) (by simpa using r))⟩⟩)
theorem cK {es:List Expr} {as:List AV} {pos:Pos} (h:jQ C lv N es ρ σ as ρ₁ σ₁) (hsz:autoParam (as.length<=FI) aD):aG C lv N (.List es pos) ρ σ (.ref σ₁.length) ρ₁ (σ₁++[.list as]):=fun A env μ s Q E ok G F hQ=>
 wpAny_List (h A env μ s pos _ _ ok G F fun vs μ1 s1 P1 r=>⟨by rw [bP r];exact hsz,by
  have k:aL A0 NoW s1 {s1 with heap:=s1.heap.push {cls:=.type "list",data:=.seq vs.toArray}}:=bD _ s1.toks;have' hl:(s1.heap.push ({cls:=.type "list",data:=.seq vs.toArray}:Obj)).objs.size=s1.heap.objs.size+1:=EU ..;have P2:=aS.alloc (a:=s1.heap.objs.size) (fp:=[s1.heap.objs.size]) (o:=.list as) P1.good P1.fr k (fun b hb=>by rw [EJ.mp hb];exact ⟨EK _,by show _<(HY _ _).objs.size;rw [hl];exact E6 _⟩) (.head _)
   ⟨rfl,vs.toArray,⟨_,ES _ rfl⟩,ay.mono (s':={s1 with heap:=s1.heap.push {cls:=.type "list",data:=.seq vs.toArray}}) (⟨⟨_,rfl,fun p hp b hb=>by rw [EJ.mp hp] at hb;rw [EJ.mp hb];exact EK _⟩,fun zz h=>EG.mpr (.inr h),fun b h=>by
    rcases EG.mp h with q | q
    ·rw [EJ.mp q];exact .inr (EK _)
    ·exact .inl q⟩:Ext μ1 (μ1.add s1.heap.objs.size [s1.heap.objs.size]) s1.heap.objs.size) k noW (by simpa using r)⟩
  refine hQ _ _ _ (P1.trans P2) ⟨(s1.heap.objs.size,[s1.heap.objs.size]),?_,rfl⟩
  show (μ1.objs++[_])[σ₁.length]? = _
  rw [<- P1.good.sim.len,EY]⟩)
theorem wI {value slice:Expr} {pos:Pos} {ds:List PyData} {i:Int} {d:PyData} (hv:aG C lv N value ρ σ (.dat (.list ds)) ρ₁ σ₁) (hi:aG C lv N slice ρ₁ σ₁ (.dat (.int i)) ρ₂ σ₂) (h0:0<=i) (hfit:i<2 ^ 63) (hd:ds[i.toNat]? = some d)
  (hs:autoParam (∀ o i,Jj slice false o i=LX [o,i] (Kk o i)) aW):aG C lv N (.Subscript value slice pos) ρ σ (.dat d) ρ₂ σ₂:=by
 intro A env μ s Q E ok G F hQ
 refine KL (hv A env μ s _ _ ok G F fun v μ1 s1 P1 r=>hi A env μ1 s1 _ _ ok P1.good P1.fr fun iv μ2 s2 P2 qq1=>?_)
 obtain ⟨bs,ri⟩:=qq1
 obtain ⟨as,r⟩:=P2.val P1.good P1.fr r
 cases ri using RI with
 | int t=>cases r using RL with
  | @list a o vs n as ho hc hdd hr=>
   have hl:s2.heap.IsList a vs:=⟨o,Ez _ ho,hc,n,hdd⟩;have hlen:=a9 hr;have hlt:i.toNat<ds.length:=(EL.mp hd).1;have' hx:vs[i.toNat]? = some (vs.toList[i.toNat]'(by omega)):=by simp
   obtain ⟨cs,rv⟩:=bh hr i.toNat (vs.toList[i.toNat]'(by omega)) d (by simp) hd
   exact LY hl.typeIs Jk.lookup (wpAny_getItem_list hl h0 hfit hx (hQ _ μ2 s2 (P1.trans P2) ⟨cs,rv⟩)) (hs _ _)
theorem tm {value slice:Expr} {pos:Pos} {ds:List PyData} {i:Int} {d:PyData} (hv:aG C lv N value ρ σ (.dat (.tuple ds)) ρ₁ σ₁) (hi:aG C lv N slice ρ₁ σ₁ (.dat (.int i)) ρ₂ σ₂) (h0:0<=i) (hfit:i<2 ^ 63) (hd:ds[i.toNat]? = some d)
  (hs:autoParam (∀ o i,Jj slice false o i=LX [o,i] (Kk o i)) aW):aG C lv N (.Subscript value slice pos) ρ σ (.dat d) ρ₂ σ₂:=by
 intro A env μ s Q E ok G F hQ
 refine KL (hv A env μ s _ _ ok G F fun v μ1 s1 P1 r=>hi A env μ1 s1 _ _ ok P1.good P1.fr fun iv μ2 s2 P2 qq1=>?_)
 obtain ⟨bs,ri⟩:=qq1
 obtain ⟨as,r⟩:=P2.val P1.good P1.fr r
 cases ri using RI with
 | int t=>cases r using RT with
  | @tuple a o vs n as ho hc hdd hr=>
   have hlen:=a9 hr;have hlt:i.toNat<ds.length:=(EL.mp hd).1;have hx:vs[i.toNat]? = some (vs.toList[i.toNat]'(by omega)):=by simp
   obtain ⟨cs,rv⟩:=bh hr i.toNat (vs.toList[i.toNat]'(by omega)) d (by simp) hd
   have ht:IsTup s2.heap a vs:=⟨o,Ez _ ho,hc,n,hdd⟩;have hj:seqIndex? i vs.size=some i.toNat:=by
    have e:vs.size=ds.length:=by simpa using hlen
    have l1:¬ i<0:=by omega
    have l2:(decide (0<=i) && decide (i<(vs.size:Int)))=true:=by simp;omega
    simp only [seqIndex?,if_neg l1,l2,if_true]
   exact LY ht.typeIs slot_tuple_getitem.lookup (getItem_tuple ht (by omega) hfit hj hx (hQ _ μ2 s2 (P1.trans P2) ⟨cs,rv⟩)) (hs _ _)
end
section
variable {C:Cx} {lv:Lv} {N:aF} {ρ ρ₁ ρ₂ ρ₃ ρ' ρ₀:aO} {σ σ₁ σ₂ σ₃ σ':aC} {o:Out} {A:Around} {env:Env} {μ μ':Mu} {s s':Shared}
noncomputable def fH (C:Cx) (lv:Lv) (σ:aC) (f:Value) (as:List AV) (d:PyData):Prop:=
 ∀ (A:Around) (μ:Mu) (s:Shared) (vs:List Value) (Q:Value->Shared->Prop) (E:Value->Shared->Prop),C.Ok->aX C lv A μ σ s->ay μ s.heap as vs->
  (∀ x s' cs,aL A0 NoW s s'->Reads (cL μ.hid s'.heap) x d cs->Q x s')->wpAny (model C.prog C.w) A (call f vs) Q E s
theorem bg {es:List Expr} {pos:Pos} (h:es.all cA=true):(backTo pos (Fy es env)).any (·.1)=false:=by
 induction es with
 | nil=>rfl
 | cons e es ih=>
  rw [GJ,Ea] at h
  rw [a7 h.1]
  show (false || _)=false
  rw [Ip];exact ih h.2
theorem cu {x:Str} {np pos:Pos} {e:Expr} {es:List Expr} {id:String} {as:List AV} {d:PyData} (hf:aG C lv N (.Name x np) ρ σ (.con (.builtin id)) ρ₁ σ₁) (ha:jQ C lv N (e :: es) ρ₁ σ₁ as ρ₂ σ₂) (hc:fH C lv σ₂ (.builtin id) as d)
  (hn:autoParam ((e :: es).all cA=true) aR):aG C lv N (.Call (.Name x np) (e :: es) [] pos) ρ σ (.dat d) ρ₂ σ₂:=by
 intro A env μ s Q E ok G F hQ
 rw [GJ,Ea] at hn
 refine GL (hf A env μ s _ _ ok G F fun v μ1 s1 P1 hv=>?_)
 obtain rfl:=hv
 refine PyProof.Rows.callWith_builtin1 (ha A env μ1 s1 pos _ _ ok P1.good P1.fr fun vs μ2 s2 P2 r=>?_) (a7 hn.1) (bg hn.2)
 exact hc A μ2 s2 vs _ _ ok P2.good r fun x s3 cs k rx=>hQ x μ2 s3 (P1.trans (P2.trans (aS.grow P2.good P2.fr k))) ⟨cs,rx⟩
theorem AR {ds:List PyData} (hz:(ds.length:Int)<2 ^ 63):fH C lv σ (.builtin "len") [.dat (.list ds)] (.int ds.length):=fun A μ s vs Q E ok G r hQ=>by
 obtain ⟨v,rfl,⟨as,r⟩⟩:=r.e1
 cases r using RL with
 | @list a o vs n as ho hc hd hr=>
  have hlen:vs.size=ds.length:=a9 hr;exact PyProof.Rows.len_list ⟨o,Ez _ ho,hc,n,hd⟩ (by rw [hlen];exact hz) (hQ _ _ [] (ae _) (by rw [hlen];exact .int _ _))
theorem yc {ds:List PyData} (hz:(ds.length:Int)<2 ^ 63):fH C lv σ (.builtin "len") [.dat (.tuple ds)] (.int ds.length):=fun A μ s vs Q E ok G r hQ=>by
 obtain ⟨v,rfl,⟨as,r⟩⟩:=r.e1
 cases r using RT with
 | @tuple a o vs n as ho hc hd hr=>
  have hlen:vs.size=ds.length:=a9 hr;exact PyProof.Rows.len_tuple ⟨o,Ez _ ho,hc,n,hd⟩ (by rw [hlen];exact hz) (hQ _ _ [] (ae _) (by rw [hlen];exact .int _ _))
theorem oG {i:Nat} {xs:List AV} (hx:σ[i]? = some (.list xs)) (hz:(xs.length:Int)<2 ^ 63):fH C lv σ (.builtin "len") [.ref i] (.int xs.length):=fun A μ s vs Q E ok G r hQ=>by
 obtain ⟨v,rfl,⟨p,hp,e⟩⟩:=r.e1
 subst e
 obtain ⟨e1,vs,hpl,hr⟩:=G.sim.rep i p _ hp hx
 have hlen:vs.size=xs.length:=bP hr
 exact PyProof.Rows.len_list hpl.isList (by rw [hlen];exact hz) (hQ _ _ [] (ae _) (by rw [hlen];exact .int _ _))
theorem Ax {a b:Int} (hq:lv.q=true):fH C lv σ (.builtin "min") [.dat (.int a),.dat (.int b)] (.int (if b<a then b else a)):=fun A μ s vs Q E ok G r hQ=>by
 obtain ⟨u,v,rfl,⟨as,r⟩,⟨bs,r'⟩⟩:=r.e2
 cases r using RI;cases r' using RI
 refine ao (min_two_ints (G.quiet hq) fun h' tk hk hsz=>hQ _ _ [] (ab hsz hk) ?_)
 split<;>exact .int _ _
theorem As {a:Int}:fH C lv σ (.builtin "abs") [.dat (.int a)] (.int (if a<0 then -a else a)):=fun A μ s vs Q E ok G r hQ=>by
 obtain ⟨u,rfl,⟨as,r⟩⟩:=r.e1
 cases r using RI
 exact call_abs_int fun u tk=>hQ _ _ [] (ae _) (.int _ _)
theorem ni {h:Heap} {vs ws:List Value} {ds es:List PyData} {as bs:List Addr} (q:FZ h vs ds as) (r:FZ h ws es bs):∃ cs,FZ h (vs++ws) (ds++es) cs:=by
 induction ds generalizing vs as with
 | nil=>cases q using RA0;exact ⟨_,r⟩
 | cons d ds ih=>cases q using RA1 with
  | cons r' t=>exact let ⟨_,z⟩:=ih t;⟨_,.cons r' z⟩
theorem kb {o:JY} {xs ys:List PyData} (hz:xs.length+ys.length<=FI) (e:autoParam (o=.Add) aR):Op2 C (.list xs) (.list ys) (.list (xs++ys)) (Iy o):=by
 subst e
 refine .mk ?_
 intro A hot u v s as bs Q E hu ru rv hh hQ
 cases ru using RL with
 | @list l o vs n as ho hc hd hr=>cases rv using RL with
  | @list b o2 ws n2 bs ho2 hc2 hd2 hr2=>
   have' e1:vs.size=xs.length:=a9 hr;have' e2:ws.size=ys.length:=a9 hr2;obtain ⟨cls,dd,data,sl⟩:=o;obtain ⟨cls2,dd2,data2,sl2⟩:=o2
   simp only at hc hd hc2 hd2
   subst hc hd hc2 hd2;have h1:=Ez _ ho;have h2:=Ez _ ho2;refine concat_meets ⟨_,h1,rfl⟩ ⟨_,h2,rfl⟩ noFill_list_add seq_list_add PySem.F.slot_list_add PySem.F.entry_list_add (PySem.F.args_list_add_2 _ _) (list_addW l b vs ws n n2 dd dd2 sl sl2 (by rw [e1,e2];exact hz)) ⟨h1,h2,?_⟩
   have k:aL A0 NoW s {s with heap:=s.heap.push {cls:=.type "list",data:=.seq (vs++ws)}}:=bD _ s.toks;obtain ⟨cs,z⟩:=ni (PyProof.Rows.ReadsAll.keeps (cU k) hr) (PyProof.Rows.ReadsAll.keeps (cU k) hr2);exact hQ _ _ _ k (.list (Fc _ (ES _ rfl) fun hm=>E5 _ (hh _ hm)) rfl rfl (by rw [IC];exact z))
noncomputable def pI:Option Nat->Option Int
 | none=>none
 | some k=>some (k:Int)
noncomputable def ki (C:Cx) (lv:Lv) (N:aF) (e:Option Expr) (ρ:aO) (σ:aC) (i:Option Nat) (ρ':aO) (σ':aC):Prop:=
 (e=none/\i=none/\ρ'=ρ/\σ'=σ)\/∃ x,e=some x/\∃ j,i=some j/\aG C lv N x ρ σ (.dat (.int (j:Nat))) ρ' σ'
theorem ti:ki C lv N none ρ σ none ρ σ:=.inl ⟨rfl,rfl,rfl,rfl⟩
theorem vO {e:Expr} {i:Int} {k:Nat} (h:aG C lv N e ρ σ (.dat (.int i)) ρ₁ σ₁) (hk:i=(k:Int)):ki C lv N (some e) ρ σ (some k) ρ₁ σ₁:=.inr ⟨_,rfl,_,rfl,hk▸h⟩
theorem pP {e:Option Expr} {i:Option Nat} {Q:Value->Shared->Prop} {E:Value->Shared->Prop} (h:ki C lv N e ρ σ i ρ₁ σ₁) (ok:C.Ok) (G:aX C lv A μ σ s) (F:aM A N env μ ρ s.heap)
  (hQ:∀ v μ' s',aS C lv A N env μ s ρ₁ σ₁ μ' s'->IsPart v (pI i)->Q v s'):wpAny (model C.prog C.w) A (evalPart e env) Q E s:=by
 rcases h with h | h
 ·obtain ⟨rfl,rfl,rfl,rfl⟩:=h
  rw [evalPart_none]
  exact EI (hQ _ μ s (aS.refl G F) .none)
 ·obtain ⟨_,rfl,_,rfl,h⟩:=h
  rw [evalPart_some]
  refine h A env μ s _ _ ok G F fun v μ1 s1 P1 qq1=>?_
  obtain ⟨_,r⟩:=qq1
  cases r using RI
  exact hQ _ μ1 s1 P1 (.int _ _)
noncomputable def di (ds:List PyData) (lo hi:Option Nat):List PyData:=match hi with
 | none=>ds.drop (lo.getD 0)
 | some b=>(ds.take b).drop (lo.getD 0)
set_option tactic.hygienic true in
theorem oJ (vs:Array Value) (lo hi:Option Nat):(Le vs (pI lo) (pI hi) none).toList=match hi with
  | none=>vs.toList.drop (lo.getD 0)
  | some b=>(vs.toList.take b).drop (lo.getD 0):=by
 rw [slicePick_plain]
 cases lo<;>cases hi<;>simp only [pI,Option.elim,Option.getD,clipAt_nat,List.drop_zero,Nat.sub_zero]
 ·rw [Fw (by simp)]
 ·rename_i b
  rcases IZ b vs.size with h | h
  ·rw [Hg h]
  ·rw [Hz h,Fw (by simp),Fw (by simpa using h)]
 ·rename_i a
  rcases IZ a vs.size with h | h
  ·rw [Hg h,Fw (by simp)]
  ·rw [Hz h,Fn (by simp),Fn (by simpa using h)];simp
 ·rename_i a b
  rw [List.drop_take]
  rcases IZ a vs.size with h | h
  ·rw [Hg h]
   rcases IZ b vs.size with h' | h'
   ·rw [Hg h']
   ·rw [Hz h',Fw (by simp),Fw (by simp;omega)]
  ·rw [Hz h,Fn (by simp),Fn (by simpa using h)];simp
theorem iO {h:Heap} (k:Nat) {vs:List Value} {ds:List PyData} {as:List Addr} (q:FZ h vs ds as):∃ cs,FZ h (vs.drop k) (ds.drop k) cs:=by
 induction k generalizing vs ds as with
 | zero=>exact ⟨_,q⟩
 | succ k ih=>cases ds with
  | nil=>cases q using RA0;exact ⟨_,.nil⟩
  | cons d ds=>cases q using RA1 with
   | cons r t=>exact ih t
theorem lf {h:Heap} (k:Nat) {vs:List Value} {ds:List PyData} {as:List Addr} (q:FZ h vs ds as):∃ cs,FZ h (vs.take k) (ds.take k) cs:=by
 induction k generalizing vs ds as with
 | zero=>exact ⟨_,by simp;exact .nil⟩
 | succ k ih=>cases ds with
  | nil=>cases q using RA0;exact ⟨_,.nil⟩
  | cons d ds=>cases q using RA1 with
   | cons r t=>exact let ⟨_,z⟩:=ih t;⟨_,.cons r z⟩
theorem jX {value:Expr} {lower upper:Option Expr} {p pos:Pos} {ds:List PyData} {lo hi:Option Nat} (hv:aG C lv N value ρ σ (.dat (.list ds)) ρ₁ σ₁) (hl:ki C lv N lower ρ₁ σ₁ lo ρ₂ σ₂) (hu:ki C lv N upper ρ₂ σ₂ hi ρ₃ σ₃) (hz:ds.length<=FI)
  (ht:autoParam (∀ o r,H1 value o r=pure ()) aJ):aG C lv N (.Subscript value (.Slice lower upper none p) pos) ρ σ (.dat (.list (di ds lo hi))) ρ₃ σ₃:=by
 intro A env μ s Q E ok G F hQ
 refine wpAny_Subscript_list_slice (hv A env μ s _ _ ok G F fun v μ1 s1 P1 r=>pP hl ok P1.good P1.fr fun vl μ2 s2 P2 h2=>pP hu ok P2.good P2.fr fun vu μ3 s3 P3 h3=>?_) ht
 obtain ⟨as,r⟩:=P3.val P2.good P2.fr (P2.val P1.good P1.fr r)
 cases r using RL with
 | @list a o vs n as ho hc hd hr=>
  have' hlen:vs.size=ds.length:=a9 hr;refine ⟨a,vs,_,_,rfl,⟨o,Ez _ ho,hc,n,hd⟩,by rw [hlen];exact hz,h2,h3,?_⟩
  have k:aL A0 NoW s3 {s3 with heap:=(s3.heap.push {cls:=.type "slice",data:=.fields #[vl,vu,.none]}).push {cls:=.type "list",data:=.seq (Le vs (pI lo) (pI hi) none)}}:=
   ab (by simp only [EU];exact Fl (Ej _)) fun zz zz e=>EM _ (EM _ e)
  have hr':=PyProof.Rows.ReadsAll.keeps (cU (hot:=μ3.hid) k) hr;have z:∃ cs,FZ (cL μ3.hid ((s3.heap.push {cls:=.type "slice",data:=.fields #[vl,vu,.none]}).push {cls:=.type "list",data:=.seq (Le vs (pI lo) (pI hi) none)})) (Le vs (pI lo) (pI hi) none).toList (di ds lo hi) cs:=by
   rw [oJ]
   unfold di
   cases hi with
   | none=>exact iO _ hr'
   | some b=>exact let ⟨_,q⟩:=lf b hr';iO _ q
  obtain ⟨cs,z⟩:=z;refine hQ _ _ _ (P1.trans (P2.trans (P3.trans (aS.grow P3.good P3.fr k)))) ⟨_,.list (Fc _ (by rw [<- EU];exact ES _ rfl) fun hm=>?_) rfl rfl z⟩
  exact absurd (P3.good.lt _ hm) (E3.mpr (Ej _))
theorem aE {st:Stmt} (h:aq C lv N st ρ σ o ρ₁ σ₁):aw C lv N [st] ρ σ o ρ₁ σ₁:=by
 by_cases ho:o=.nxt
 ·subst ho;exact aA h aH
 ·exact cB h ho
theorem jz {st:Stmt} {r:List Stmt} {rv:AV} {okk:Bool} (h:aq C lv N st ρ σ (if okk then .nxt else .ret rv) ρ₁ σ₁) (hr:okk=true->aw C lv N r ρ₁ σ₁ o ρ₁ σ₁) (ho:okk=false->o=.ret rv):aw C lv N (st :: r) ρ σ o ρ₁ σ₁:=by
 cases okk with
 | true=>exact aA h (hr rfl)
 | false=>rw [ho rfl];exact cB h (by intro q;cases q)
theorem gF {t e:Expr} {p pos:Pos} {r:List Stmt} {c:Bool} {rv:AV} (ht:aY C lv N t ρ σ c ρ σ) (he:c=true->aG C lv N e ρ σ rv ρ σ) (ho:c=true->o=.ret rv) (hr:c=false->aw C lv N r ρ σ o ρ σ) :
  aw C lv N (.If t [.Return (some e) p] [] pos :: r) ρ σ o ρ σ:=by
 cases c with
 | true=>rw [ho rfl];exact a8 (bL ht (a8 (aT (he rfl))))
 | false=>exact aA (aN ht aH) (hr rfl)
theorem er {α:Type} {t:Expr} {body:List Stmt} {xs:List α} {v:α->AV} {r:α->aO} {okk:α->Bool} {rv:AV} (ha:∀ x∈xs,ci C lv N t (v x) ρ σ (r x) σ)
  (hb:∀ x∈xs,aw C lv N body (r x) σ (if okk x then .nxt else .ret rv) ρ σ):fc C lv N t body [] (xs.map v) ρ σ (if xs.all okk then .nxt else .ret rv) ρ σ:=by
 induction xs with
 | nil=>exact .done aH
 | cons x xs ih=>
  have' ih:=ih (fun y hy=>ha y (.tail _ hy)) fun y hy=>hb y (.tail _ hy)
  have hb:=hb x (.head _)
  rw [E9,GJ]
  cases hx:okk x with
  | true=>rw [hx] at hb;exact .turn (ha x (.head _)) hb (.inl rfl) Sub.refl ih
  | false=>rw [hx] at hb;exact .ret (ha x (.head _)) hb
theorem cW {α:Type} {t:Expr} {body:List Stmt} {xs:List α} {v:α->AV} {r:α->aO} {S:List α->aC} (ha:∀ pre x post,xs=pre++x :: post->ci C lv N t (v x) ρ (S pre) (r x) (S pre))
  (hb:∀ pre x post,xs=pre++x :: post->aw C lv N body (r x) (S pre) .nxt ρ (S (pre++[x]))):fc C lv N t body [] (xs.map v) ρ (S []) .nxt ρ (S xs):=by
 suffices h:∀ pre post,xs=pre++post->fc C lv N t body [] (post.map v) ρ (S pre) .nxt ρ (S xs) from h [] xs rfl
 intro pre post
 induction post generalizing pre with
 | nil=>intro e;rw [FH] at e;rw [e];exact .done aH
 | cons x post ih=>
  intro e;exact .turn (ha pre x post e) (hb pre x post e) (.inl rfl) Sub.refl (ih (pre++[x]) (by rw [e,FK];rfl))
end
section
variable {C:Cx} {lv:Lv} {N:aF} {ρ ρ₁ ρ₂ ρ₃ ρ' ρ₀:aO} {σ σ₁ σ₂ σ₃ σ':aC} {o:Out} {A:Around} {env:Env} {μ μ':Mu} {s s':Shared} {a b:AV}
noncomputable def dQ (C:Cx) (lv:Lv) (σ:aC) (f:Value) (as:List AV) (a:AV) (σ':aC):Prop:=
 ∀ (N:aF) (ρ:aO) (A:Around) (env:Env) (μ:Mu) (s:Shared) (vs:List Value) (Q:Value->Shared->Prop) (E:Value->Shared->Prop),C.Ok->aX C lv A μ σ s->aM A N env μ ρ s.heap->ay μ s.heap as vs->
  (∀ v μ' s',aS C lv A N env μ s ρ σ' μ' s'->af μ' s'.heap a v->Q v s')->wpAny (model C.prog C.w) A (call f vs) Q E s
theorem uN {x:Str} {np pos:Pos} {e:Expr} {es:List Expr} {id:String} {as:List AV} (hf:aG C lv N (.Name x np) ρ σ (.con (.builtin id)) ρ₁ σ₁) (ha:jQ C lv N (e :: es) ρ₁ σ₁ as ρ₂ σ₂) (hc:dQ C lv σ₂ (.builtin id) as a σ₃)
  (hn:autoParam ((e :: es).all cA=true) aR):aG C lv N (.Call (.Name x np) (e :: es) [] pos) ρ σ a ρ₂ σ₃:=by
 intro A env μ s Q E ok G F hQ
 rw [GJ,Ea] at hn
 refine GL (hf A env μ s _ _ ok G F fun v μ1 s1 P1 hv=>?_)
 obtain rfl:=hv
 refine PyProof.Rows.callWith_builtin1 (ha A env μ1 s1 pos _ _ ok P1.good P1.fr fun vs μ2 s2 P2 r=>?_) (a7 hn.1) (bg hn.2)
 exact hc N ρ₂ A env μ2 s2 vs _ _ ok P2.good P2.fr r fun x μ3 s3 P3 rx=>hQ x μ3 s3 (P1.trans (P2.trans P3)) rx
theorem ct {x:Str} {np pos:Pos} {e:Expr} {es:List Expr} {id:String} {as:List AV} (hf:aG C lv N (.Name x np) ρ σ (.con (.type id)) ρ₁ σ₁) (ha:jQ C lv N (e :: es) ρ₁ σ₁ as ρ₂ σ₂) (hc:dQ C lv σ₂ (.type id) as a σ₃)
  (hn:autoParam ((e :: es).all cA=true) aR):aG C lv N (.Call (.Name x np) (e :: es) [] pos) ρ σ a ρ₂ σ₃:=by
 intro A env μ s Q E ok G F hQ
 have' hn0:=hn
 rw [GJ,Ea] at hn
 refine GL (hf A env μ s _ _ ok G F fun v μ1 s1 P1 hv=>?_)
 obtain rfl:=hv
 refine PySem.callWith_type (bg hn0) ?_
 have h:=ha A env μ1 s1 pos (fun vs s₁=>wpAny (model C.prog C.w) A (call (.type id) vs) Q E s₁) E ok P1.good P1.fr fun vs μ2 s2 P2 r=>
  hc N ρ₂ A env μ2 s2 vs _ _ ok P2.good P2.fr r fun x μ3 s3 P3 rx=>hQ x μ3 s3 (P1.trans (P2.trans P3)) rx
 rw [a7 hn.1] at h ⊢
 exact FS h
noncomputable def mG (C:Cx) (σ:aC) (a:AV) (T:String):Prop:=∀ μ (s:Shared) v,Sim C μ σ s.heap->af μ s.heap a v->s.TypeIs v T/\∀ b,v=.ref b->∃ ob,s.heap.get? b=some ob/\ob.dict=none
theorem dJ {i:Nat} {xs:List AV} (hx:σ[i]? = some (.list xs)):mG C σ (.ref i) "list" := by
 rintro μ s v S ⟨p,hp,rfl⟩
 obtain ⟨e1,vs,hpl,hr⟩:=S.rep i p _ hp hx
 exact ⟨hpl.isList.typeIs,fun b hb=>by cases hb;obtain ⟨n,ho⟩:=hpl;exact ⟨_,ho,rfl⟩⟩
theorem j0 {ob:Expr} {name:Str} {apos pos:Pos} {T id:String} (ho:aG C lv N ob ρ σ a ρ₁ σ₁) (ty:mG C σ₁ a T) (pa:PlainAttrs T) (sl:Slot T name id)
  (hty:typeOf (.builtin id)=pure (.type "method_descriptor")) (hc:dQ C lv σ₁ (.builtin id) [a] b σ₃) (hbase:autoParam (∀ env,HR ob name env (eval ob env)=eval ob env) aI)
  (hline:autoParam ((apos.endLine==pos.line)=true) aR):aG C lv N (.Call (.Attribute ob name apos) [] [] pos) ρ σ b ρ₁ σ₃:=by
 intro A env μ s Q E ok G F hQ
 refine IR (hbase env) hline (ho A env μ s _ _ ok G F fun v μ1 s1 P1 hv=>⟨T,id,pa,sl,hty,(ty μ1 s1 v P1.good.sim hv).1,(ty μ1 s1 v P1.good.sim hv).2,?_⟩)
 exact Fx rfl (PySem.evalArgs_none (hc N ρ₁ A env μ1 s1 [v] _ _ ok P1.good P1.fr ⟨hv,trivial⟩ fun x μ3 s3 P3 rx=>hQ x μ3 s3 (P1.trans P3) rx))
theorem ed {ob e:Expr} {es:List Expr} {name:Str} {apos pos:Pos} {T id:String} {as:List AV} (ho:aG C lv N ob ρ σ a ρ₁ σ₁) (ha:jQ C lv N (e :: es) ρ₁ σ₁ as ρ₂ σ₂) (ty:mG C σ₁ a T) (pa:PlainAttrs T) (sl:Slot T name id)
  (hty:typeOf (.builtin id)=pure (.type "method_descriptor")) (hc:dQ C lv σ₂ (.builtin id) (a :: as) b σ₃) (hbase:autoParam (∀ env,HR ob name env (eval ob env)=eval ob env) aI)
  (hfew:autoParam (∀ env,((backTo pos (Fy (e :: es) env)).all (fun x=>!x.1) && (HE pos (GH [] env)).all (fun x=>x.1.isSome)
   && decide ((e :: es).length+([]:List IH).length+(if ([]:List IH).isEmpty then 0 else 1)<30))=true) aI)
  (hline:autoParam ((apos.endLine==pos.line)=true) aR) (hn:autoParam ((e :: es).all cA=true) aR):aG C lv N (.Call (.Attribute ob name apos) (e :: es) [] pos) ρ σ b ρ₂ σ₃:=by
 intro A env μ s Q E ok G F hQ
 refine He (hbase env) (hfew env) hline rfl (ho A env μ s _ _ ok G F fun v μ1 s1 P1 hv=>⟨T,id,pa,sl,hty,(ty μ1 s1 v P1.good.sim hv).1,(ty μ1 s1 v P1.good.sim hv).2,?_⟩)
 have h:=ha A env μ1 s1 pos (fun vs s₁=>wpAny (model C.prog C.w) A (call (.builtin id) (v :: vs)) Q E s₁) E ok P1.good P1.fr fun vs μ2 s2 P2 r=>
  hc N ρ₂ A env μ2 s2 (v :: vs) _ _ ok P2.good P2.fr ⟨P2.val P1.good P1.fr hv,r⟩ fun x μ3 s3 P3 rx=>hQ x μ3 s3 (P1.trans (P2.trans P3)) rx
 refine Fx (bg hn) ?_
 rw [GJ,Ea] at hn
 rw [a7 hn.1] at h ⊢
 exact FS h
theorem gV {l:Addr} {fp:List Addr} {h':Heap} (hl:l∈fp) (hs:G7 l s.heap h'):aL A (·∈fp) s {s with heap:=h'}:=⟨h',_,_,rfl,⟨Ec hs.1.symm,id⟩,fun b o hb e=>.inl ((hs.2 b fun q=>hb (q▸hl)).trans e)⟩
theorem w7 {h:Heap} {as bs:List AV} {vs ws:List Value} (r:ay μ h as vs) (q:ay μ h bs ws):ay μ h (as++bs) (vs++ws):=ay.ind r q fun zz zz zz zz hv zz ih=>⟨hv,ih⟩
theorem wU {h:Heap} {a:AV} {v:Value} (hv:af μ h a v) {as:List AV} {vs:List Value} (k:Nat) (r:ay μ h as vs):ay μ h (as.set k a) (vs.set k v):=by
 refine ay.ind (motive:=fun as vs=>∀ k,ay μ h (as.set k a) (vs.set k v)) r (fun zz=>trivial) (fun zz zz as vs h1 r ih k=>?_) k
 cases k with
 | zero=>exact ⟨hv,r⟩
 | succ k=>exact ⟨h1,ih k⟩
theorem uI {i:Nat} {xs:List AV} (hx:σ[i]? = some (.list xs)) (hz:i∉lv.fz) (hsz:xs.length<=FI):dQ C lv σ (.builtin "list.append") [.ref i,a] (.dat .none) (σ.set i (.list (xs++[a]))):=by
 intro N ρ A env μ s vs Q E ok G F r hQ
 obtain ⟨u,v,rfl,⟨p,hp,e⟩,rv⟩:=r.e2
 subst e
 obtain ⟨e1,ws,hpl,hr⟩:=G.sim.rep i p _ hp hx
 have hl:p.1∈p.2:=by rw [e1];exact .head _
 refine KA hpl (fun h' hpl' hs=>?_) (by have:=bP hr;rw [<- FQ,this];exact hsz)
 have k:=gV (A:=A) hl hs
 have hW:∀ b,b∈p.2\/FA A b->b∈μ.hid\/s.heap.objs.size<=b:=G.fw fun b hb=>.inl (G.sim.foot b (aj (EN hp) hb))
 refine hQ _ μ _ (aS.write G F hp hz k ⟨e1,ws.push v,hpl',?_⟩) ⟨[],.none⟩
 rw [Jg]
 exact w7 (ay.mono (Ext.refl _ _) k hW hr) ⟨rv.mono (Ext.refl _ _) k hW,trivial⟩
theorem ba {ob e:Expr} {apos pos:Pos} {i:Nat} {xs:List AV} (ho:aG C lv N ob ρ σ (.ref i) ρ₁ σ₁) (ha:aG C lv N e ρ₁ σ₁ a ρ₂ σ₂) (hl:∃ ys,σ₁[i]? = some (.list ys)) (hx:σ₂[i]? = some (.list xs)) (hz:i∉lv.fz) (hsz:xs.length<=FI)
  (hbase:autoParam (∀ env,HR ob "append" env (eval ob env)=eval ob env) aI)
  (hfew:autoParam (∀ env,((backTo pos (Fy [e] env)).all (fun x=>!x.1) && (HE pos (GH [] env)).all (fun x=>x.1.isSome)
   && decide ([e].length+([]:List IH).length+(if ([]:List IH).isEmpty then 0 else 1)<30))=true) aI)
  (hline:autoParam ((apos.endLine==pos.line)=true) aR) (hn:autoParam (cA e=true) aR):aG C lv N (.Call (.Attribute ob "append" apos) [e] [] pos) ρ σ (.dat .none) ρ₂ (σ₂.set i (.list (xs++[a]))):=
 let ⟨_,hl⟩:=hl
 ed ho (bF ha bR hn) (dJ hl) PySem.F.plainAttrs_list slot_list_append type_list_append (uI hx hz hsz) hbase hfew hline (by rw [GJ,hn];rfl)
theorem mY {value slice:Expr} {pos:Pos} {l:Nat} {xs:List AV} {i:Int} (hv:aG C lv N value ρ σ (.ref l) ρ₁ σ₁) (hi:aG C lv N slice ρ₁ σ₁ (.dat (.int i)) ρ₂ σ₂) (hx:σ₂[l]? = some (.list xs)) (h0:0<=i) (hfit:i<2 ^ 63) (hd:xs[i.toNat]? = some a)
  (hs:autoParam (∀ o i,Jj slice false o i=LX [o,i] (Kk o i)) aW):aG C lv N (.Subscript value slice pos) ρ σ a ρ₂ σ₂:=by
 intro A env μ s Q E ok G F hQ
 refine KL (hv A env μ s _ _ ok G F fun v μ1 s1 P1 r=>hi A env μ1 s1 _ _ ok P1.good P1.fr fun iv μ2 s2 P2 qq1=>?_)
 obtain ⟨bs,ri⟩:=qq1
 obtain ⟨p,hp,rfl⟩:=P2.val P1.good P1.fr r
 obtain ⟨e1,ws,hpl,hr⟩:=P2.good.sim.rep l p _ hp hx
 cases ri using RI with
 | int t=>
  have hlt:i.toNat<xs.length:=(EL.mp hd).1;have hlen:=bP hr;have hx':ws[i.toNat]? = some (ws.toList[i.toNat]'(by omega)):=by simp
  exact LY hpl.isList.typeIs Jk.lookup (wpAny_getItem_list hpl.isList h0 hfit hx' (hQ _ μ2 s2 (P1.trans P2) (e8 hr i.toNat _ a (by simp) hd))) (hs _ _)
theorem Frz.see {h:Heap} {d:PyData} (S:Sim C μ σ h) (f:Frz σ 0 a d):∀ {v:Value},af μ h a v->∃ as,Reads h v d as:=by
 refine f (fun a d=>∀ {v:Value},af μ h a v->∃ as,Reads h v d as) ?c1 ?c2
 case c1=>intro d v r;obtain ⟨as,r⟩:=r;exact ⟨as,cP r⟩
 case c2=>
  intro i xs ds hk hx hl ih v r;obtain ⟨p,hp,rfl⟩:=r;obtain ⟨e1,vs,hpl,hr⟩:=S.rep i p _ hp hx;obtain ⟨m,ho⟩:=hpl;obtain ⟨bs,ra⟩:=gc (h:=h) (vs:=vs.toList) (ds:=ds) (by rw [bP hr,hl]) fun j v d hv hd=>by
   have hlt:j<xs.length:=by rw [hl];exact (EL.mp hd).1
   exact ih j xs[j] d (by simp [hlt]) hd (e8 hr j v xs[j] hv (by simp [hlt]))
  exact ⟨_,.list ho rfl rfl ra⟩
theorem gp {h:Heap} {v:Value} {d:PyData} {as:List Addr} (r:Reads h v d as):Reads (cL [] h) v d as:=PyProof.Rows.Reads.keeps (fun b o e=>Fc _ e (by simp)) r
theorem OpG.see {t:Value->Value->Sem Value} {d e:PyData} {c:Bool} (h:Op2 C d e (.bool c) t) (fa:Frz σ 0 a d) (fb:Frz σ 0 b e):OpG C lv σ a b (.bool c) t:=.mk fun A μ u v s Q E ok G ru rv hQ=>by
 obtain ⟨as,ru⟩:=fa.see G.sim ru
 obtain ⟨bs,rv⟩:=fb.see G.sim rv
 exact h.run A [] u v s as bs Q E G.units' (gp ru) (gp rv) jI fun x s' cs k rx=>hQ x s' cs k (by cases rx using RB;exact .bool _)
theorem j5 (its:Array Value) (n j:Nat) (x:Value) :
  ∃ n',FB (·.setIfInBounds j x) {cls:=.type "list",data:=.seq its n}={cls:=.type "list",data:=.seq (its.setIfInBounds j x) n'}:=by
 simp only [FB]
 exact ⟨_,rfl⟩
theorem ly {l:Addr} {items:Array Value} {k:Int} {t:Tok} {v:Value} {Q:Unit->Shared->Prop} {E:Value->Shared->Prop} {prog:Fq} {w:World} (hl:s.heap.PlainList l items) (h0:0<=k) (hfit:k<2 ^ 63) (hn:k<items.size)
  (hQ:∀ h',h'.PlainList l (items.setIfInBounds k.toNat v)->G7 l s.heap h'->Q () {s with heap:=h'}):wpAny (model prog w) A (setItem (.ref l) (.int k t) v) Q E s:=by
 obtain ⟨n,ho⟩:=id hl
 have hT:=hl.isList.typeIs
 unfold setItem
 refine E1 ?_
 refine ED (wpAny_sequenceKey hT (by decide) ?_)
 refine ED (wpAny_callSpecial?_slot (name:=EE "__setitem__") hT slot_list_setitem (KC slot_list_setitem hT entry_list_setitem ?_ (args_list_setitem _ _ _)))
 show wpAny _ _ (Ep.List.listSubscript? (.int k t) >>= _) _ _ s
 refine ED (wpAny_listSubscript_int (fitsIndex_of h0 hfit) ?_)
 obtain ⟨j,rfl⟩:=Int.eq_ofNat_of_zero_le h0
 have' hj:j<items.size:=by omega
 have' hx':items[j]? = some items[j]:=HF hj
 show wpAny _ _ ((seqItemAt l j >>= fun r=>pure (r.map (j,·))) >>= _) _ _ s
 refine ED (ED (wpAny_seqItemAt ho rfl (EI ?_)))
 rw [hx']
 show wpAny _ _ (setSeqItemAt l j v >>= _) _ _ s
 obtain ⟨n',e⟩:=j5 items n j v
 have hfin:(s.heap.update l (FB (·.setIfInBounds j v))).PlainList l (items.setIfInBounds j v):=⟨n',by rw [FU _ ho (by rw [e];rfl),e]⟩
 refine ED (wpAny_setSeqItemAt ho rfl ?_)
 first
  | exact ED (EI (EI ⟨.none,rfl,EI (hQ _ hfin (G7.update ..))⟩))
  | exact EI ⟨.none,rfl,EI (hQ _ hfin (G7.update ..))⟩
theorem th {value slice:Expr} {pos:Pos} {l:Nat} {xs:List AV} {i:Int} (hv:aG C lv N value ρ σ (.ref l) ρ₁ σ₁) (hi:aG C lv N slice ρ₁ σ₁ (.dat (.int i)) ρ₂ σ₂) (hx:σ₂[l]? = some (.list xs)) (hz:l∉lv.fz) (h0:0<=i) (hfit:i<2 ^ 63) (hlt:i.toNat<xs.length)
  (hs:autoParam (∀ iv v ov:Value,(match slice with | .Slice _ _ none _=>[iv,v,ov] | _=>[v,ov,iv])=[v,ov,iv]) aK):ci C lv N (.Subscript value slice pos) a ρ σ ρ₂ (σ₂.set l (.list (xs.set i.toNat a))):=by
 intro A env μ s v Q E ok G F r hQ
 rw [K8]
 refine ED (E1 (hv A env μ s _ _ ok G F fun ov μ1 s1 P1 ro=>ED (E1 (hi A env μ1 s1 _ _ ok P1.good P1.fr fun iv μ2 s2 P2 ⟨bs,ri⟩=>ED (FT ?_)))))
 obtain ⟨p,hp,rfl⟩:=P2.val P1.good P1.fr ro
 have' r2:=P2.val P1.good P1.fr (P1.val G F r)
 obtain ⟨e1,ws,hpl,hr⟩:=P2.good.sim.rep l p _ hp hx
 have hl:p.1∈p.2:=by rw [e1];exact .head _
 cases ri using RI with
 | int t=>
  have' hlen:=bP hr
  rw [FQ] at hlen
  refine ED (E1 (ly hpl h0 hfit (by omega) fun h' hpl' hsb=>Jt ?_))
  have k:=gV (A:=A) hl hsb;have hW:∀ b,b∈p.2\/FA A b->b∈μ2.hid\/s2.heap.objs.size<=b:=P2.good.fw fun b hb=>.inl (P2.good.sim.foot b (aj (EN hp) hb))
  refine hQ μ2 _ (P1.trans (P2.trans (aS.write P2.good P2.fr hp hz k ⟨e1,_,hpl',?_⟩)))
  rw [J0]
  exact wU (r2.mono (Ext.refl _ _) k hW) _ (ay.mono (Ext.refl _ _) k hW hr)
theorem oB {x y:Expr} {pos:Pos} {p q:Bool} (hx:aG C lv N x ρ σ (.dat (.bool p)) ρ σ) (hy:p=false->aG C lv N y ρ σ (.dat (.bool q)) ρ σ):aG C lv N (.BoolOp .Or [x,y] pos) ρ σ (.dat (.bool (p || q))) ρ σ:=fun A env μ s Q E ok G F hQ=>
 BoolOp_or (hx A env μ s _ _ ok G F fun v μ1 s1 P1 ⟨_,r⟩=>by
  cases r using RB
  refine HN ?_
  cases p with
  | true=>exact hQ _ μ1 s1 P1 ⟨_,.bool _⟩
  | false=>exact BoolOp_one (hy rfl A env μ1 s1 _ _ ok P1.good P1.fr fun v μ2 s2 P2 r=>hQ v μ2 s2 (P1.trans P2) r))
theorem pv {x y:Expr} {pos:Pos} {p q:Bool} (hx:aG C lv N x ρ σ (.dat (.bool p)) ρ σ) (hy:p=true->aG C lv N y ρ σ (.dat (.bool q)) ρ σ):aG C lv N (.BoolOp .And [x,y] pos) ρ σ (.dat (.bool (p && q))) ρ σ:=fun A env μ s Q E ok G F hQ=>
 BoolOp_and (hx A env μ s _ _ ok G F fun v μ1 s1 P1 ⟨_,r⟩=>by
  cases r using RB
  refine HN ?_
  cases p with
  | false=>exact hQ _ μ1 s1 P1 ⟨_,.bool _⟩
  | true=>exact BoolOp_one (hy rfl A env μ1 s1 _ _ ok P1.good P1.fr fun v μ2 s2 P2 r=>hQ v μ2 s2 (P1.trans P2) r))
theorem gP {α:Type} {l t:List α} {x y:α} {k:Nat} (hk:k=l.length):(l++x :: t).set k y=l++y :: t:=by subst hk;rw [Eh _ _ (EK _),GB];rfl
theorem bp {α:Type} {l t:List α} {x:α} {k:Nat} (hk:k=l.length):(l++x :: t)[k]? = some x:=by subst hk;rw [E2 (EK _),GB];rfl
theorem aG.st {e:Expr} (h:aG C lv N e ρ σ a ρ₁ σ₁) (e':σ₁=σ₂):aG C lv N e ρ σ a ρ₁ σ₂:=e'▸h
theorem aq.st {b:Stmt} (h:aq C lv N b ρ σ o ρ₁ σ₁) (e':σ₁=σ₂):aq C lv N b ρ σ o ρ₁ σ₂:=e'▸h
theorem aw.st {b:List Stmt} (h:aw C lv N b ρ σ o ρ₁ σ₁) (e':σ₁=σ₂):aw C lv N b ρ σ o ρ₁ σ₂:=e'▸h
theorem eK {n x:Nat} {pre post:List Nat} (h:EQ n=pre++x :: post):x=pre.length/\x<n:=by
 have h1:(EQ n)[pre.length]? = some x:=by rw [h];exact bp rfl
 have hl:pre.length<n:=by
  have:=congrArg H7 h
  simp at this;omega
 rw [List.getElem?_range hl] at h1
 cases h1
 exact ⟨rfl,hl⟩
theorem pd {α:Type} {l r:List α} {x y:α} {n:Nat} (hn:r.length=n):(l++x :: (r++[y]))[l.length+1+n]? = some y:=by
 subst hn
 rw [E2 (by omega),show l.length+1+r.length - l.length=r.length+1 by omega,Ey,E2 (EK _),GB];rfl
theorem yK {α:Type} {l r:List α} {x y z:α} {n:Nat} (hn:r.length=n):(l++x :: (r++[y])).set (l.length+1+n) z=l++x :: (r++[z]):=by
 subst hn
 rw [Eh _ _ (by omega),show l.length+1+r.length - l.length=r.length+1 by omega,F7,Eh _ _ (EK _),GB];rfl
end
section
variable {C:Cx} {lv:Lv} {N:aF} {ρ ρ₁ ρ₂ ρ₃ ρ' ρ₀:aO} {σ σ₁ σ₂ σ₃ σ':aC} {o:Out} {A:Around} {env:Env} {μ μ' μ₁:Mu} {s s' s₁:Shared} {a b:AV} {X:String} {e:Addr} {n:Nat}
structure Exc (C:Cx) (hp:Heap) (μ:Mu) (h:Heap) (e:Addr) (X:String) (vs:Array Value):Prop where
 new:hp.get? e=none
 old:C.h0.get? e=none
 foot:e∉μ.foot
 rc:∃ oe,h.get? e=some oe/\oe.cls=.type X/\oe.data=.fields vs
structure Tb (C:Cx) (hp:Heap) (μ:Mu) (h:Heap) (e T:Addr) (ts:Array Value):Prop where
 new:hp.get? T=none
 old:C.h0.get? T=none
 foot:T∉μ.foot
 ne:T≠e
 rc:∃ oT,h.get? T=some oT/\oT.data=.fields ts
noncomputable def kl (C:Cx) (hp:Heap) (μ:Mu) (h:Heap) (e:Addr) (X:String) (f:Value):Prop:=∃ vs T ts,Exc C hp μ h e X vs/\vs[1]? = some (.ref T)/\Tb C hp μ h e T ts/\ts[3]? = some f
noncomputable def Fly (C:Cx) (hp:Heap) (env:Env) (μ:Mu) (h:Heap) (e:Addr) (X:String):Prop:=(∃ vs,Exc C hp μ h e X vs/\vs[1]? = some .none)\/∃ L,env.frame=some L/\kl C hp μ h e X (rawInt L)
theorem aL.transN {W W':Addr->Prop} {a b c:Shared} (x:aL A W a b) (y:aL A W' b c) (h:∀ d,W' d->W d\/a.heap.get? d=none):aL A W a c:=by
 obtain ⟨h1,g1,t1,rfl,l1,k1⟩:=x
 obtain ⟨h2,g2,t2,rfl,l2,k2⟩:=y
 refine ⟨h2,g2,t2,rfl,⟨EH l1.1 l2.1,fun q=>l2.2 (l1.2 q)⟩,fun d o hd e=>?_⟩
 have hd':¬ W' d:=fun hm=>by
  rcases h d hm with q | q
  ·exact hd q
  ·rw [e] at q;cases q
 rcases k1 d o hd e with q | ⟨f,dd,o1,q,r⟩
 ·exact k2 d o hd' q
 ·rcases k2 d o1 hd' q with q2 | ⟨_,_,o2,q2,r2⟩
  ·exact .inr ⟨f,dd,o1,q2,r⟩
  ·exact .inr ⟨f,dd,o2,q2,r2.trans r⟩
theorem aM.turnR {W:Addr->Prop} (F:aM A N env μ ρ s.heap) (k:aL A W s s') (m:Mov μ μ s.heap s'.heap) (hL:¬ W env.locals) (hC:∀ p∈env.cells,¬ W p.2):aM A N env μ ρ s'.heap:=by
 obtain ⟨mm,⟨o,es,ep,e,d,r⟩,hv⟩:=F.vals
 obtain ⟨o',e',d'⟩:=k.like hL e
 refine ⟨F.fn,F.glob,F.blt,F.nodup,F.plain,F.kinds,F.hidL,F.freeL,F.cellsIn,fun p hp=>?_,F.apart,F.fe,mm,⟨o',es,ep,e',d'.trans d,r⟩,hv.map fun p zz a h=>?_⟩
 ·obtain ⟨a,b,c,v,o,ho,d⟩:=F.cells p hp
  obtain ⟨o',ho',d'⟩:=k.like (hC p hp) ho;exact ⟨a,b,c,v,o',ho',d'.trans d⟩
 ·obtain ⟨v,r,q⟩:=h
  refine ⟨v,r.move m,q.imp id fun qq1=>?_⟩
  obtain ⟨k1,c,hl,o,ho,hd⟩:=qq1;obtain ⟨o',ho',d'⟩:=k.like (hC (p.1,c) (bG hl)) ho;exact ⟨k1,c,hl,o',ho',d'.trans hd⟩
theorem aX.turnR {W:Addr->Prop} (G:aX C lv A μ σ s) (k:aL A W s s') (m:Mov μ μ s.heap s'.heap) (h1:∀ b,W b->C.h0.get? b=none) (h2:∀ b,W b->b∉μ.foot) (hr:∀ b,W b->∃ o vs,s.heap.get? b=some o/\o.data=.fields vs):aX C lv A μ σ s':=by
 refine ⟨G.quiet,G.frz,G.room,G.units,EH G.top k.le,fun b o e=>k.at (fun hb=>by rw [h1 b hb] at e;cases e) (G.notFA0 e) (G.base b o e),G.low,fun b hb=>E8 (G.lt b hb) k.le,
  ⟨G.sim.len,fun i p o hp ho=>(G.sim.rep i p o hp ho).move m fun b hb o e=>k.at (fun hw=>h2 b hw (aj (EN hp) hb)) (G.notFA (aj (EN hp) hb)) e,G.sim.foot,G.sim.apart,G.sim.self⟩,G.frs.mono (Ext.refl _ _) k G.lt fun b hf hb=>?_⟩
 obtain ⟨_,_,o,es,n,ho,hd⟩:=G.frs.fa hf
 obtain ⟨o',vs,ho',hd'⟩:=hr b hb
 rw [ho] at ho';cases ho';rw [hd] at hd';cases hd'
theorem aS.turnR {W:Addr->Prop} (P:aS C lv A N env μ s ρ σ μ₁ s₁) (k:aL A W s₁ s') (h0:∀ b,W b->s.heap.get? b=none) (h1:∀ b,W b->C.h0.get? b=none) (h2:∀ b,W b->b∉μ₁.foot)
  (hr:∀ b,W b->∃ o vs,s₁.heap.get? b=some o/\o.data=.fields vs):aS C lv A N env μ s ρ σ μ₁ s':=by
 have m:Mov μ₁ μ₁ s₁.heap s'.heap:=Mov.records k hr fun b hf=>(P.good.frs.fa hf).1
 refine ⟨P.fz0,P.good.turnR k m h1 h2 hr,P.fr.turnR k m (fun hb=>?_) (fun p hp hb=>?_),P.ext,P.kept.transN k fun b hb=>.inr (h0 b hb)⟩
 ·obtain ⟨m,⟨o,es,n,ho,hd,_⟩,_⟩:=P.fr.vals
  obtain ⟨o',vs,ho',hd'⟩:=hr _ hb
  rw [ho] at ho';cases ho';rw [hd] at hd';cases hd'
 ·obtain ⟨_,_,_,v,o,ho,hd⟩:=P.fr.cells p hp
  obtain ⟨o',vs,ho',hd'⟩:=hr _ hb
  rw [ho] at ho';cases ho';rw [hd] at hd';cases hd'
theorem jW {lv':Lv} (F:aM A N env μ ρ s.heap) (G:aX C lv A μ σ s) (P:aS C lv' A N env μ s ρ' σ' μ' s') (h:s'.heap.get? e=none):s.heap.get? e=none:=by
 cases hq:s.heap.get? e with
 | none=>rfl
 | some o=>
  exfalso
  by_cases hw:WS μ N env e
  ·rcases hw with ⟨i,p,hp,_,hb⟩ | rfl | ⟨x,hx,hl⟩
   ·have hp':=P.ext.get hp
    have hi:i<σ'.length:=by rw [<- P.good.sim.len];exact (EL.mp hp').1
    obtain ⟨ob,hob⟩:=(P.good.sim.rep i p σ'[i] hp' (Eb hi)).there e hb
    rw [h] at hob;cases hob
   ·obtain ⟨m,⟨o,es,n,ho,_⟩,_⟩:=P.fr.vals
    rw [h] at ho;cases ho
   ·obtain ⟨_,_,_,v,o,ho,_⟩:=P.fr.cells (x,e) (bG hl)
    rw [h] at ho;cases ho
  ·obtain ⟨o',ho',_⟩:=P.kept.like hw hq
   rw [h] at ho';cases ho'
theorem nH {f:Option Addr} {g:Value} {Q:Unit->Shared->Prop} {E:Value->Shared->Prop} (P:aS C lv A N env μ s ρ σ μ₁ s₁) (f₁:kl C s.heap μ₁ s₁.heap e X g)
  (hQ:∀ s₂,aS C lv A N env μ s ρ σ μ₁ s₂->kl C s.heap μ₁ s₂.heap e X (f.elim FE fun x=>rawInt x)->Q () s₂):wpAny (model C.prog C.w) A (setFlight (.ref e) f) Q E s₁:=by
 obtain ⟨vs,T,ts,x,h1,t,h3⟩:=f₁
 obtain ⟨oe,he,hc,hd⟩:=x.rc
 obtain ⟨oT,hT,hdT⟩:=t.rc
 have hsz3:3<ts.size:=(F0.mp h3).1
 unfold setFlight
 refine ED (IS he hd h1 ?_)
 rw [if_pos (show (Fj T != FE)=true from by simp)]
 refine wpAny_setField hT hdT hsz3 ?_
 generalize hg:(f.elim FE fun x=>rawInt x)=g'
 have other:∀ b,b≠T->(s₁.heap.update T (Iq (·.setIfInBounds 3 g'))).get? b=s₁.heap.get? b:=fun b hb=>GM _ _ (Ne.symm hb)
 have' k:aL A (· = T) s₁ {s₁ with heap:=s₁.heap.update T (Iq (·.setIfInBounds 3 g'))}:=⟨_,_,_,rfl,⟨Ec (G7.update ..).1.symm,id⟩,fun b o hb e=>.inl ((other b hb).trans e)⟩
 have P2:=P.turnR k (fun b hb=>hb▸t.new) (fun b hb=>hb▸t.old) (fun b hb=>hb▸t.foot) (fun b hb=>hb▸⟨_,_,hT,hdT⟩)
 refine hQ _ P2 ⟨vs,T,_,⟨x.new,x.old,x.foot,oe,(other e (Ne.symm t.ne)).trans he,hc,hd⟩,h1,⟨t.new,t.old,t.foot,t.ne,_,FU _ hT (K3 (J2 hdT _)),J2 hdT _⟩,by rw [hg];simp [hsz3]⟩
theorem tr {l:List Env} {h:Heap} (H:∀ env∈l,env.scope.kind≠.module/\∃ L,env.frame=some L/\L∈μ.hid/\L∉μ.foot/\∃ o es n,h.get? L=some o/\o.data=.dict es n) (hlow:∀ b∈μ.hid,C.h0.get? b=none):h.FunFrames C.h0 l:=by
 induction l with
 | nil=>trivial
 | cons env l ih=>
  obtain ⟨a,L,hL,b1,_,o,es,n,ho,hd⟩:=H env (.head _);exact ⟨a,⟨L,o,hL,hlow _ b1,ho,fun vs q=>by rw [hd] at q;cases q⟩,ih fun e he=>H e (.tail _ he)⟩
theorem qi {l:List Env} {L:Addr} (h:∃ e∈l,e.frame=some L) (hf:env.frame=some L):∃ e0 r,l.dropWhile (fun x=>x.frame != env.frame)=e0 :: r/\e0.frame=some L:=by
 induction l with
 | nil=>obtain ⟨_,hm,_⟩:=h;cases hm
 | cons e1 l ih=>
  rw [List.dropWhile_cons]
  by_cases q:e1.frame=some L
  ·rw [if_neg (by rw [q,hf];simp)]
   exact ⟨e1,l,rfl,q⟩
  ·rw [if_pos (by rw [hf];simpa using q)]
   refine ih ?_;obtain ⟨e,hm,he⟩:=h
   rcases EV.mp hm with rfl | hm
   ·exact absurd he q
   ·exact ⟨e,hm,he⟩
theorem AX {Q:Unit->Shared->Prop} {E:Value->Shared->Prop} (P:aS C lv A N env μ s ρ σ μ₁ s₁) (f₁:Fly C s.heap env μ₁ s₁.heap e X)
  (hQ:∀ L μ₂ s₂,env.frame=some L->aS C lv A N env μ s ρ σ μ₂ s₂->kl C s.heap μ₂ s₂.heap e X (rawInt L)->Q () s₂):wpAny (model C.prog C.w) A (Ld (.ref e) env) Q E s₁:=by
 rcases f₁ with ⟨vs,x,h1⟩ | ⟨L,hf,N1⟩
 ·obtain ⟨L,hf,hFA⟩:=P.fr.fe
  obtain ⟨oe,he,hc,hd⟩:=x.rc;obtain ⟨l,hfr,Hl⟩:=P.good.frs.all;have hsz:1<vs.size:=(F0.mp h1).1;unfold Ld
  simp only [hf]
  refine ED (IS he hd h1 ?_)
  rw [if_neg (by decide)]
  unfold PySem.frameOf;refine ED (ED (wpAny_frameEnvs hfr ?_));obtain ⟨e0,r,hdw,he0⟩:=qi (l:=l) (env:=env) (by obtain ⟨l',e',env',hm,hf'⟩:=hFA;rw [hfr] at e';cases e';exact ⟨env',hm,hf'⟩) hf
  rw [hdw]
  unfold frameObject;have hsub:∀ e'∈e0 :: r,e'∈l:=fun e' hm=>(List.dropWhile_sublist _).subset (hdw▸hm)
  refine ED (ED (wpAny_readyFrames_fun (tr (C:=C) (μ:=μ₁) (fun e' hm=>Hl e' (hsub e' hm)) P.good.low) fun h₁ hs₁=>EI ?_))
  rw [he0]
  refine EI ?_;refine ED (wpAny_entryPlaceOf fun pl hpl=>?_)
  unfold EntryCells.newEntry newFields;refine ED (G8 ?_ (hpl.sizeOk5 _ _ _ _ _));have inFA:∀ b,b∈(e0 :: r).filterMap (·.frame)->FA A b:=fun b hb=>by
   obtain ⟨e',hm,hf'⟩:=List.mem_filterMap.mp hb;exact ⟨l,hfr,e',hsub e' hm,hf'⟩
  have' notF:¬ FA A e:=fun q=>by
   obtain ⟨_,_,o,es,n,ho,hd'⟩:=P.good.frs.fa q
   rw [he] at ho;cases ho;rw [hd] at hd';cases hd'
  have he₁:h₁.get? e=some oe:=(hs₁.2.1 e fun hm=>notF (inFA e hm)).trans he
  generalize hO:({cls:=.type "traceback",dict:=none,data:=.fields ([FE,.ref L,.none,rawInt L,.none]++(if pl.isEmpty then FO 6 FE else pl)).toArray}:Obj)=O
  have he₂:=EM (h:=h₁) O he₁;refine wpAny_setField he₂ hd hsz ?_;have hTe:h₁.objs.size≠e:=I4 (Ed he₁);have hd₃:=J2 hd (·.setIfInBounds 1 (Fj h₁.objs.size))
  have' hs2:((h₁.push O).update e (Iq (·.setIfInBounds 1 (Fj h₁.objs.size)))).objs.size=h₁.objs.size+1:=by
   rw [(G7.update ..).1];exact EU ..
  have' k:aL A (· = e) s₁ {s₁ with heap:=(h₁.push O).update e (Iq (·.setIfInBounds 1 (Fj h₁.objs.size)))}:=by
   refine ⟨_,_,_,rfl,⟨by rw [hs2,hs₁.1];exact Ej _,id⟩,fun b o hb hbo=>?_⟩
   have up:∀ o',h₁.get? b=some o'->((h₁.push O).update e (Iq (·.setIfInBounds 1 (Fj h₁.objs.size)))).get? b=some o':=fun o' q=>by
    rw [GM _ _ (Ne.symm hb)]
    exact EM _ q
   by_cases hm:b∈(e0 :: r).filterMap (·.frame)
   ·obtain ⟨_,_,o',es,n,ho',hd'⟩:=P.good.frs.fa (inFA b hm)
    rw [hbo] at ho';cases ho'
    obtain ⟨sl,hsl⟩:=hs₁.2.2 b o hbo;exact .inr ⟨inFA b hm,⟨es,n,hd'⟩,_,up _ hsl,rfl⟩
   ·exact .inl (up _ ((hs₁.2.1 b hm).trans hbo))
  have P2:=P.turnR k (fun b hb=>hb▸x.new) (fun b hb=>hb▸x.old) (fun b hb=>hb▸x.foot) (fun b hb=>hb▸⟨_,_,he,hd⟩)
  have lle:s.heap.objs.size<=h₁.objs.size:=by rw [hs₁.1];exact P.kept.le
  have lle0:C.h0.objs.size<=h₁.objs.size:=by rw [hs₁.1];exact P.good.top
  refine hQ L _ _ hf P2 ⟨_,h₁.objs.size,_,⟨x.new,x.old,x.foot,_,FU _ he₂ (K3 hd₃),(Obj.cls_mapFields ..).trans hc,hd₃⟩,by simp [hsz],
   ⟨HM lle,HM lle0,fun q=>absurd (P.good.lt _ (P.good.sim.foot _ q)) (by rw [hs₁.1];exact E5 _),hTe,O,?_,by rw [<- hO]⟩,?_⟩
  ·rw [GM _ _ (Ne.symm hTe)]
   exact ES h₁ (by rw [<- hO];rfl)
  ·simp
 ·obtain ⟨vs,T,ts,x,h1,t,h3⟩:=N1
  obtain ⟨oe,he,hc,hd⟩:=x.rc;obtain ⟨oT,hT,hdT⟩:=t.rc;exact wpAny_noteFrame_inFlight hf he hd h1 hT hdT h3 (hQ L _ _ hf P ⟨vs,T,ts,x,h1,t,h3⟩)
theorem Fly.le {lv':Lv} (F:aM A N env μ ρ s.heap) (G:aX C lv A μ σ s) (P:aS C lv' A N env μ s ρ' σ' μ' s') {μ₂:Mu} {h:Heap} (x:Fly C s'.heap env μ₂ h e X):Fly C s.heap env μ₂ h e X:=by
 rcases x with ⟨vs,a,b⟩ | ⟨L,hL,vs,T,ts,a,b,c,d⟩
 ·exact .inl ⟨vs,⟨jW F G P a.new,a.old,a.foot,a.rc⟩,b⟩
 ·exact .inr ⟨L,hL,vs,T,ts,⟨jW F G P a.new,a.old,a.foot,a.rc⟩,b,⟨jW F G P c.new,c.old,c.foot,c.ne,c.rc⟩,d⟩
theorem k8 {lv':Lv} {A':Around} {b:Addr} {ob:Obj} {vs:Array Value} (F:aM A' N env μ ρ s.heap) (P:aS C lv' A' N env μ s ρ' σ' μ' s') (hf:b∉μ.foot) (hb:s.heap.get? b=some ob) (hd:ob.data=.fields vs):s'.heap.get? b=some ob:=by
 refine P.kept.atD (fun hw=>?_) (fun es n q=>by rw [hd] at q;cases q) hb
 rcases hw with q | rfl | ⟨x,hx,hl⟩
 ·exact hf (WC.foot q)
 ·obtain ⟨m,⟨o,es,n,ho,hd',_⟩,_⟩:=F.vals
  rw [hb] at ho;cases ho;rw [hd] at hd';cases hd'
 ·obtain ⟨_,_,_,v,o,ho,hd'⟩:=F.cells (x,b) (bG hl)
  rw [hb] at ho;cases ho;rw [hd] at hd';cases hd'
theorem jv {b:Addr} {k:Nat} (x:Ext μ μ' k) (hb:b<k) (h:b∉μ.foot):b∉μ'.foot:=fun q=>(x.foot _ q).elim h fun z=>absurd hb (E3.mpr z)
theorem kl.stands {hp:Heap} {lv':Lv} {A':Around} {f:Value} (x:kl C hp μ s.heap e X f) (F:aM A' N env μ ρ s.heap) (P:aS C lv' A' N env μ s ρ' σ' μ' s'):kl C hp μ' s'.heap e X f:=by
 obtain ⟨vs,T,ts,a,h1,c,h3⟩:=x
 obtain ⟨oe,he,hc,hd⟩:=a.rc
 obtain ⟨oT,hT,hdT⟩:=c.rc
 exact ⟨vs,T,ts,⟨a.new,a.old,jv P.ext (Ed he) a.foot,oe,k8 F P a.foot he hd,hc,hd⟩,h1,⟨c.new,c.old,jv P.ext (Ed hT) c.foot,c.ne,oT,k8 F P c.foot hT hdT,hdT⟩,h3⟩
noncomputable def kW (C:Cx) (lv:Lv) (A:Around) (N:aF) (env:Env) (μ:Mu) (s:Shared) (ρ':aO) (σ':aC) (X:String) (E:Value->Shared->Prop):Prop:=
 ∀ x μ' s',aS C lv A N env μ s ρ' σ' μ' s'->Fly C s.heap env μ' s'.heap x X->E (.ref x) s'
noncomputable def sv (C:Cx) (lv:Lv) (N:aF) (e:Expr) (ρ:aO) (σ:aC) (X:String) (ρ':aO) (σ':aC):Prop:=
 ∀ (A:Around) (env:Env) (μ:Mu) (s:Shared) (Q:Value->Shared->Prop) (E:Value->Shared->Prop),C.Ok->aX C lv A μ σ s->aM A N env μ ρ s.heap->kW C lv A N env μ s ρ' σ' X E->wpAny (model C.prog C.w) A (eval e env) Q E s
noncomputable def iP (C:Cx) (lv:Lv) (N:aF) (st:Stmt) (ρ:aO) (σ:aC) (X:String) (ρ':aO) (σ':aC):Prop:=
 ∀ (A:Around) (env:Env) (μ:Mu) (s:Shared) (Q:Flow->Shared->Prop) (E:Value->Shared->Prop),C.Ok->aX C lv A μ σ s->aM A N env μ ρ s.heap->kW C lv A N env μ s ρ' σ' X E->wpAny (model C.prog C.w) A (exec st env) Q E s
noncomputable def fh (C:Cx) (lv:Lv) (N:aF) (b:List Stmt) (ρ:aO) (σ:aC) (X:String) (ρ':aO) (σ':aC):Prop:=
 ∀ (A:Around) (env:Env) (μ:Mu) (s:Shared) (Q:Flow->Shared->Prop) (E:Value->Shared->Prop),C.Ok->aX C lv A μ σ s->aM A N env μ ρ s.heap->kW C lv A N env μ s ρ' σ' X E->wpAny (model C.prog C.w) A (execs b env) Q E s
theorem kW.behind {E:Value->Shared->Prop} (h:kW C lv A N env μ s ρ' σ' X E) (G:aX C lv A μ σ s) (F:aM A N env μ ρ s.heap) (P:aS C lv A N env μ s ρ₁ σ₁ μ₁ s₁):kW C lv A N env μ₁ s₁ ρ' σ' X E:=fun x μ' s' P' f=>h x μ' s' (P.trans P') (f.le F G P)
theorem rE {e:Expr} {pos:Pos} (h:sv C lv N e ρ σ X ρ₁ σ₁) (hs:autoParam (∀ env,swapsWith e none pos.line env=pure false) aI):iP C lv N (.Expr e pos) ρ σ X ρ₁ σ₁:=fun A env μ s Q E ok G F hE=>
 wpAny_Expr_any (h A env μ s _ _ ok G F hE) (by unfold interactive;rw [F.fn];rfl) (hs env)
theorem eh {st:Stmt} {r:List Stmt} (h:iP C lv N st ρ σ X ρ₁ σ₁):fh C lv N (st :: r) ρ σ X ρ₁ σ₁:=fun A env μ s Q E ok G F hE=>Hy (h A env μ s _ _ ok G F hE)
theorem rU {st:Stmt} {r:List Stmt} (h:aq C lv N st ρ σ .nxt ρ₁ σ₁) (hr:fh C lv N r ρ₁ σ₁ X ρ₂ σ₂):fh C lv N (st :: r) ρ σ X ρ₂ σ₂:=fun A env μ s Q E ok G F hE=>
 Hy (h A env μ s _ _ ok G F fun f μ1 s1 P1 e=>by
  obtain rfl:=e;exact hr A env μ1 s1 _ _ ok P1.good P1.fr (hE.behind G F P1))
theorem mx {t value:Expr} {pos:Pos} (hv:sv C lv N value ρ σ X ρ₁ σ₁) (he:autoParam (∀ env,(IJ [t] env).map (·.2)=[assign t env]) aI)
  (hs:autoParam (∀ env,Jr [t] value pos.line env=pure false) aI) (hw:autoParam (∀ env,Io [t] value env=pure none) aI):iP C lv N (.Assign [t] value pos) ρ σ X ρ₁ σ₁:=fun A env μ s Q E ok G F hE=>
 JJ (by
  rw [he]
  exact hv A env μ s _ _ ok G F hE) (hs env) (hw env)
theorem aM.mark {h:Option Value} {hp:Heap} (F:aM A N env μ ρ hp):aM (A.mark h) N env μ ρ hp:=⟨F.fn,F.glob,F.blt,F.nodup,F.plain,F.kinds,F.hidL,F.freeL,F.cellsIn,F.cells,F.apart,F.fe,F.vals⟩
theorem aX.mark {h:Option Value} (G:aX C lv A μ σ s):aX C {lv with q:=false} (A.mark h) μ σ s:=⟨(fun q=>nomatch q),G.frz,G.room,G.units,G.top,G.base,G.low,G.lt,G.sim,⟨G.frs.all⟩⟩
theorem aS.unmark {h:Option Value} {μ₀:Mu} {σ₀:aC} {s₀:Shared} (G:aX C lv A μ₀ σ₀ s₀) (P:aS C {lv with q:=false} (A.mark h) N env μ s ρ σ μ' s'):aS C lv A N env μ s ρ σ μ' s':=
 ⟨P.fz0,⟨G.quiet,P.good.frz,P.good.room,P.good.units,P.good.top,P.good.base,P.good.low,P.good.lt,P.good.sim,⟨P.good.frs.all⟩⟩,⟨P.fr.fn,P.fr.glob,P.fr.blt,P.fr.nodup,P.fr.plain,P.fr.kinds,P.fr.hidL,P.fr.freeL,P.fr.cellsIn,P.fr.cells,P.fr.apart,P.fr.fe,P.fr.vals⟩,P.ext,P.kept⟩
theorem ju {body orelse suite:List Stmt} {b₀:Stmt} {t:Expr} {rest:List Ir} {pos pos':Pos} {T:String} (hb:fh C lv N body ρ σ X ρ₁ σ₁) (ht:aG C {lv with q:=false} N t ρ₁ σ₁ (.con (.type T)) ρ₁ σ₁)
  (hexc:IT (.type T) (.type "BaseException")=pure true) (hnt:IT (.type ((Manifest.find? T).elim "type" fun x=>x.metatype)) (.type "tuple")=pure false) (hsub:IT (.type X) (.type T)=pure true)
  (hs:aw C {lv with q:=false} N (b₀ :: suite) ρ₁ σ₁ o ρ₂ σ₂):aq C lv N (.Try body (.ExceptHandler (some t) none (b₀ :: suite) pos :: rest) orelse [] pos') ρ σ o ρ₂ σ₂:=by
 intro A env μ s Q E ok G F hQ
 refine KD (hb A env μ s _ _ ok G F fun x μ1 s1 P1 f1=>AX P1 f1 fun L μ2 s2 hf P2 N2=>nH (f:=none) P2 N2 fun s3 P3 N3=>?_)
 refine wpAny_handleBy_builtin hexc hnt hsub (ht _ env μ2 s3 _ _ ok P3.good.mark P3.fr.mark fun v μ4 s4 P4 hv=>⟨hv,?_,?_⟩)
 ·have' N4:=N3.stands P3.fr.mark P4
  obtain ⟨vs,T',ts,a,_⟩:=N4;obtain ⟨oe,he,hc,_⟩:=a.rc;exact ⟨oe,he,hc⟩
 ·rw [if_pos rfl]
  have' N4:=N3.stands P3.fr.mark P4;have P34:=P3.trans (P4.unmark G);have' P34m:aS C {lv with q:=false} (A.mark (some (.ref x))) N env μ s ρ₁ σ₁ μ4 s4:=⟨P34.fz0,P34.good.mark,P34.fr.mark,P34.ext,P34.kept⟩;refine nH (f:=none) P34m N4 fun s5 P5 N5=>?_
  exact hs _ env μ4 s5 _ _ ok P5.good P5.fr fun f μ6 s6 P6 r=>hQ f μ6 s6 ((P5.unmark G).trans (P6.unmark G)) r
theorem rq {body orelse:List Stmt} {h₀:Ir} {hs:List Ir} {pos:Pos} (hb:aw C lv N body ρ σ .nxt ρ₁ σ₁) (ho:aw C lv N orelse ρ₁ σ₁ o ρ₂ σ₂):aq C lv N (.Try body (h₀ :: hs) orelse [] pos) ρ σ o ρ₂ σ₂:=fun A env μ s Q E ok G F hQ=>
 KD (hb A env μ s _ _ ok G F fun f μ1 s1 P1 r=>by
  obtain rfl:=r;exact ho A env μ1 s1 _ _ ok P1.good P1.fr fun f μ2 s2 P2 r=>hQ f μ2 s2 (P1.trans P2) r)
theorem jm {body orelse:List Stmt} {h₀:Ir} {hs:List Ir} {pos:Pos} (hb:aw C lv N body ρ σ o ρ₁ σ₁) (ho:o≠.nxt):aq C lv N (.Try body (h₀ :: hs) orelse [] pos) ρ σ o ρ₁ σ₁:=fun A env μ s Q E ok G F hQ=>
 KD (hb A env μ s _ _ ok G F fun f μ1 s1 P1 r=>by
  have z:=hQ f μ1 s1 P1 r
  cases o with
  | nxt=>exact absurd rfl ho
  | brk=>obtain rfl:=r;exact z
  | cnt=>obtain rfl:=r;exact z
  | ret a=>obtain ⟨v,rfl,_⟩:=r;exact z)
noncomputable def iM (C:Cx) (lv:Lv) (N:aF) (tg:Expr) (body:List Stmt):List AV->aO->aC->String->aO->aC->Prop
 | [],_,_,_,_,_=>False
 | x :: xs,ρ,σ,X,ρ',σ'=>∀ P:Prop,(∀ ρ₁ σ₁ o ρ₂ σ₂ ρ₃,ci C lv N tg x ρ σ ρ₁ σ₁->aw C lv N body ρ₁ σ₁ o ρ₂ σ₂->o=.nxt\/o=.cnt->Sub ρ₂ ρ₃->iM C lv N tg body xs ρ₃ σ₂ X ρ' σ'->P)->(∀ ρ₁ σ₁,ci C lv N tg x ρ σ ρ₁ σ₁->fh C lv N body ρ₁ σ₁ X ρ' σ'->P)->P
theorem iM.turn {tg:Expr} {body:List Stmt} {x:AV} {xs:List AV} (a:ci C lv N tg x ρ σ ρ₁ σ₁) (b:aw C lv N body ρ₁ σ₁ o ρ₂ σ₂) (c:o=.nxt\/o=.cnt) (d:Sub ρ₂ ρ₃) (e:iM C lv N tg body xs ρ₃ σ₂ X ρ' σ'):iM C lv N tg body (x :: xs) ρ σ X ρ' σ':=fun P k zz=>k _ _ _ _ _ _ a b c d e
theorem iM.exc {tg:Expr} {body:List Stmt} {x:AV} {xs:List AV} (a:ci C lv N tg x ρ σ ρ₁ σ₁) (b:fh C lv N body ρ₁ σ₁ X ρ₂ σ₂):iM C lv N tg body (x :: xs) ρ σ X ρ₂ σ₂:=fun P zz k=>k _ _ a b
theorem wu {t iter:Expr} {body orelse:List Stmt} {pos:Pos} {ls:List Nat} {items:List AV} (hi:gO C lv N t iter ls ρ σ items ρ₁ σ₁) (hf:iM C {lv with fz:=ls++lv.fz} N t body items ρ₁ σ₁ X ρ' σ')
  (hs:autoParam (∀ env x,Fu iter env x=pure x) aJ):iP C lv N (.For t iter body orelse pos) ρ σ X ρ' σ':=fun A env μ s Q E ok G F hE=>by
 refine wpAny_For (hi A env μ s _ _ ok G F fun I μ1 s1 P1 hIt=>?_) (hs env)
 obtain ⟨fp,wr,P,St,W,st0,hlt,hfp,hwr,-,hP⟩:=hIt
 have hz1:μ1.fz=lv.fz:=P1.good.frz
 rw [hz1] at hfp
 have hnf:∀ b∈fp,¬ FA A b:=fun b hb=>(hfp b hb).2
 have' hwL:∀ b∈wr,¬ env.locals=b:=fun b hb q=>by
  obtain ⟨m,hn,_⟩:=F.vals;have l1:=ltA hn.lt;have l2:=leA (hwr b hb).2.2
  rw [q] at l1;omega
 have' hwC:∀ b∈wr,∀ p∈env.cells,¬ p.2=b:=fun b hb p hp q=>by
  obtain ⟨_,_,_,v,hv⟩:=F.cells p hp;have l1:=ltA hv.lt;have l2:=leA (hwr b hb).2.2
  rw [q] at l1;omega
 have G1:=P1.good.fz (ls++lv.fz)
 have F1:=P1.fr.fz (ls++lv.fz)
 generalize hm:({μ1 with fz:=ls++lv.fz}:Mu)=m1 at G1 F1 hfp
 have hh1:m1.hid=μ1.hid:=by rw [<- hm]
 have ho1:m1.objs=μ1.objs:=by rw [<- hm]
 have hf1:m1.foot=μ1.foot:=by unfold Mu.foot;rw [ho1]
 have WWh:∀ b,(WS m1 N env b\/b∈wr)\/FA A b->b∈m1.hid\/s1.heap.objs.size<=b:=G1.fw fun b hb=>hb.elim (fun q=>.inl (dC G1.sim F1 b q)) fun q=>.inl (hh1▸(hwr b q).1)
 have fin0:∀ {ρ':aO} {σ':aC} μ3 s3,aX C {lv with fz:=ls++lv.fz} A μ3 σ' s3->aM A N env μ3 ρ' s3.heap->Ext m1 μ3 s1.heap.objs.size->aL A (fun b=>WS m1 N env b\/b∈wr) s1 s3->aS C lv A N env μ s ρ' σ' {μ3 with fz:=lv.fz} s3:=by
  intro ρ' σ' μ3 s3 g f x k;have x':Ext μ1 {μ3 with fz:=lv.fz} s1.heap.objs.size:=⟨by have:=x.grow;rw [ho1] at this;exact this,fun b hb=>x.sub b (hh1▸hb),fun b hb=>hh1▸x.new b hb⟩
  refine ⟨G.frz,g.fz lv.fz,f.fz lv.fz,P1.ext.trans x' P1.kept.le,P1.kept.trans k fun b hb=>?_⟩
  rcases hb with q | q
  ·rw [<- hm,<- hz1] at q
   exact bi P1.ext (hz1.trans G.frz.symm) b (WS.fz q)
  ·exact .inr (hwr b q).2.2
 refine Kr (fun n s₂=>∃ i ρ₂ σ₂ μ₂,zO C {lv with fz:=ls++lv.fz} A N env (fun xs ρ₂ σ₂=>iM C {lv with fz:=ls++lv.fz} N t body xs ρ₂ σ₂ X ρ' σ') items m1 s1 wr St n i ρ₂ σ₂ μ₂ s₂)
  (fun n s₂ hI=>?_) (items.length - 0) ⟨0,ρ₁,σ₁,m1,hf,G1,F1,Ext.refl _ _,aL.refl _ _ _,st0,rfl,En _⟩
 clear hf P1 hi hs
 obtain ⟨i,ρ₂,σ₂,μ₂,V⟩:=hI
 have G2:=V.good
 have x2:=V.ext
 have step:∀ h' tk,(∀ b o,b∉wr->s₂.heap.get? b=some o->h'.get? b=some o)->s₂.heap.objs.size<=h'.objs.size->
   aX C {lv with fz:=ls++lv.fz} A μ₂ σ₂ {s₂ with heap:=h',toks:=tk}/\aM A N env μ₂ ρ₂ h'/\aL A (fun b=>WS m1 N env b\/b∈wr) s1 {s₂ with heap:=h',toks:=tk}:=by
  intro h' tk hk hl;have k:aL A (·∈wr) s₂ {s₂ with heap:=h',toks:=tk}:=⟨h',_,_,rfl,⟨hl,id⟩,fun b o hb e=>.inl (hk b o hb e)⟩
  have w1:∀ b∈wr,b∈μ₂.hid:=fun b hb=>x2.sub b (hh1▸(hwr b hb).1)
  refine ⟨G2.turn k w1 (fun b hb q=>?_) (fun b hf hb=>absurd hf (hnf b (W.sub b hb))),V.fr.ext (s':={s₂ with heap:=h',toks:=tk}) (Ext.refl _ _) k (G2.fw fun b hb=>.inl (w1 b hb)) (fun q=>hwL _ q rfl) (fun p hp q=>hwC _ q p hp rfl),V.kept.trans k fun b hb=>.inl (.inr hb)⟩
  rcases x2.foot b q with q | q
  ·exact (hwr b hb).2.1 (hf1▸q)
  ·exact absurd (hlt b (W.sub b hb)) (E3.mpr q)
 have keepSt:∀ j (s₃ s₄:Shared) μ₃ σ₃ ρ₃,St j s₃.heap->Ext m1 μ₃ s1.heap.objs.size->aX C {lv with fz:=ls++lv.fz} A μ₃ σ₃ s₃->aM A N env μ₃ ρ₃ s₃.heap->aL A (WS μ₃ N env) s₃ s₄->St j s₄.heap:=by
  intro j s₃ s₄ μ₃ σ₃ ρ₃ st x g f k;refine W.frame j _ _ st fun b hb o e=>k.at (fun q=>?_) (hnf b hb) e
  rcases bi x (by rw [g.frz,<- hm]) b q with q | q
  ·exact (hfp b hb).1 q
  ·exact absurd (hlt b hb) (E3.mpr q)
 have hf:=V.run
 rcases JM i items.length with hi | hi
 case inr=>rw [Fn hi] at hf;exact hf.elim
 rw [Gg hi] at hf
 refine hf _ (fun ρa σa o ρb σb ρc ha hb ho hs hn=>?_) fun ρa σa ha hb=>?_<;>
  refine W.item i s₂ _ _ _ hi V.st (fun v s1 h=>h) fun v h' tk hv st' hk hl=>?_
 ·obtain ⟨g,f,k⟩:=step h' tk hk hl
  have r:af μ₂ h' _ v:=hP i v _ _ _ _ (Eb hi) hv G2.lt ((Mov.of (s':={s₂ with heap:=h',toks:=tk}) x2 k WWh).eqL hh1 ho1);refine ha A env μ₂ _ v _ _ ok g f r fun μ3 s3 P3=>hb A env μ3 s3 _ _ ok P3.good P3.fr fun fl μ4 s4 P4 r=>?_
  have k4:=(k.trans P3.kept fun b q=>(bi x2 (by rw [G2.frz,<- hm]) b q).imp .inl id)
  have x3:=x2.trans P3.ext k.le;have' k5:=(k4.trans P4.kept fun b q=>(bi x3 (by rw [P3.good.frz,<- hm]) b q).imp .inl id)
  have' st4:St (i+1) s4.heap:=keepSt _ s3 s4 μ3 _ _ (keepSt _ {s₂ with heap:=h',toks:=tk} s3 μ₂ _ _ st' x2 g f P3.kept) x3 P3.good P3.fr P4.kept;have z:=zO.mk (K:=fun xs ρ₂ σ₂=>iM C {lv with fz:=ls++lv.fz} N t body xs ρ₂ σ₂ X ρ' σ') hn P4.good (P4.fr.sub hs) (x3.trans P4.ext k4.le) k5 st4 rfl hi
  rcases ho with rfl | rfl<;>obtain rfl:=r<;>exact ⟨_,V.left▸md hi,_,_,_,_,z⟩
 ·obtain ⟨g,f,k⟩:=step h' tk hk hl
  have' r:af μ₂ h' _ v:=hP i v _ _ _ _ (Eb hi) hv G2.lt ((Mov.of (s':={s₂ with heap:=h',toks:=tk}) x2 k WWh).eqL hh1 ho1);refine ha A env μ₂ _ v _ _ ok g f r fun μ3 s3 P3=>hb A env μ3 s3 _ _ ok P3.good P3.fr fun x μ4 s4 P4 f4=>?_
  have k4:=(k.trans P3.kept fun b q=>(bi x2 (by rw [G2.frz,<- hm]) b q).imp .inl id)
  have x3:=x2.trans P3.ext k.le;have' k5:=(k4.trans P4.kept fun b q=>(bi x3 (by rw [P3.good.frz,<- hm]) b q).imp .inl id)
  have' P5:=fin0 μ4 s4 P4.good P4.fr (x3.trans P4.ext k4.le) k5;have' P3':=fin0 μ3 s3 P3.good P3.fr x3 k4;have' f5:Fly C s.heap env {μ4 with fz:=lv.fz} s4.heap x X:=by
   have' f4':Fly C s.heap env μ4 s4.heap x X:=Fly.le F G P3' f4
   rcases f4' with ⟨vs,a,b⟩ | ⟨L,hL,vs,T,ts,a,b,c,d⟩
   ·exact .inl ⟨vs,⟨a.new,a.old,a.foot,a.rc⟩,b⟩
   ·exact .inr ⟨L,hL,vs,T,ts,⟨a.new,a.old,a.foot,a.rc⟩,b,⟨c.new,c.old,c.foot,c.ne,c.rc⟩,d⟩
  refine AX P5 f5 fun L μ6 s6 hL P6 N6=>?_
  show LG (model C.prog C.w) A env E (.ref x) s6
  have' N6':=N6;obtain ⟨vs,T,ts,a,b,c,d⟩:=N6';obtain ⟨oe,he,hc,hdd⟩:=a.rc;unfold LG;refine ED (IS he hdd b ?_)
  rw [if_neg (by simp),hL]
  exact nH (f:=some L) P6 N6 fun s7 P7 N7=>hE x μ6 s7 P7 (.inr ⟨L,hL,N7⟩)
end
section
variable {C:Cx} {lv:Lv} {N:aF} {ρ ρ₁ ρ₂ ρ₃ ρ' ρ₀:aO} {σ σ₁ σ₂ σ₃ σ':aC} {o:Out} {A:Around} {env:Env} {μ μ' μ₁:Mu} {s s' s₁:Shared} {a b:AV} {X:String} {e:Addr} {n:Nat}
noncomputable def zt (C:Cx) (lv:Lv) (σ:aC) (f:Value) (as:List AV) (X:String) (σ':aC):Prop:=
 ∀ (N:aF) (ρ:aO) (A:Around) (env:Env) (μ:Mu) (s:Shared) (vs:List Value) (Q:Value->Shared->Prop) (E:Value->Shared->Prop),C.Ok->aX C lv A μ σ s->aM A N env μ ρ s.heap->ay μ s.heap as vs->
  kW C lv A N env μ s ρ σ' X E->wpAny (model C.prog C.w) A (call f vs) Q E s
theorem vS {ob e:Expr} {es:List Expr} {name:Str} {apos pos:Pos} {T id:String} {as:List AV} (ho:aG C lv N ob ρ σ a ρ₁ σ₁) (ha:jQ C lv N (e :: es) ρ₁ σ₁ as ρ₂ σ₂) (ty:mG C σ₁ a T) (pa:PlainAttrs T) (sl:Slot T name id)
  (hty:typeOf (.builtin id)=pure (.type "method_descriptor")) (hc:zt C lv σ₂ (.builtin id) (a :: as) X σ₃) (hbase:autoParam (∀ env,HR ob name env (eval ob env)=eval ob env) aI)
  (hfew:autoParam (∀ env,((backTo pos (Fy (e :: es) env)).all (fun x=>!x.1) && (HE pos (GH [] env)).all (fun x=>x.1.isSome)
   && decide ((e :: es).length+([]:List IH).length+(if ([]:List IH).isEmpty then 0 else 1)<30))=true) aI)
  (hline:autoParam ((apos.endLine==pos.line)=true) aR) (hn:autoParam ((e :: es).all cA=true) aR):sv C lv N (.Call (.Attribute ob name apos) (e :: es) [] pos) ρ σ X ρ₂ σ₃:=by
 intro A env μ s Q E ok G F hE
 refine He (hbase env) (hfew env) hline rfl (ho A env μ s _ _ ok G F fun v μ1 s1 P1 hv=>⟨T,id,pa,sl,hty,(ty μ1 s1 v P1.good.sim hv).1,(ty μ1 s1 v P1.good.sim hv).2,?_⟩)
 have h:=ha A env μ1 s1 pos (fun vs s₁=>wpAny (model C.prog C.w) A (call (.builtin id) (v :: vs)) Q E s₁) E ok P1.good P1.fr fun vs μ2 s2 P2 r=>
  hc N ρ₂ A env μ2 s2 (v :: vs) _ _ ok P2.good P2.fr ⟨P2.val P1.good P1.fr hv,r⟩ (hE.behind G F (P1.trans P2))
 refine Fx (bg hn) ?_
 rw [GJ,Ea] at hn
 rw [a7 hn.1] at h ⊢
 exact FS h
theorem nY {h':Heap} {tk:Nat} {x:Addr} (G:aX C lv A μ σ s) (F:aM A N env μ ρ s.heap) (hx:Lj s.heap h' x X) (hl:s.heap.objs.size<=h'.objs.size) :
  aS C lv A N env μ s ρ σ μ {s with heap:=h',toks:=tk}/\Fly C s.heap env μ h' x X:=by
 obtain ⟨hk,hn,oe,t,he,hc,hd⟩:=hx
 refine ⟨aS.grow G F (ab hl hk),.inl ⟨_,⟨hn,?_,fun q=>?_,oe,he,hc,hd⟩,rfl⟩⟩
 ·cases hq:C.h0.get? x with
  | none=>rfl
  | some o=>rw [G.base _ _ hq] at hn;cases hn
 ·obtain ⟨p,hp,hb⟩:=HZ.mp q
  obtain ⟨i,hi⟩:=Iz hp;have hlt:i<σ.length:=by rw [<- G.sim.len];exact (EL.mp hi).1
  obtain ⟨ob,hob⟩:=(G.sim.rep i p σ[i] hi (Eb hlt)).there x hb
  rw [hn] at hob;cases hob
theorem AA {ws:List Str} {vs:List Value} {bs:List Addr} {h:Heap} (r:FZ h vs (ws.map .str) bs) (w:Str) (t:Tok):(∀ y∈vs,MeetsSeq.EqGives y (.str w t) (match y with | .str z _=>z==w | _=>false))/\vs.map (fun y=>match y with | .str z _=>z==w | _=>false)=ws.map fun z=>z==w:=by
 induction ws generalizing vs bs with
 | nil=>cases r using RA0;exact ⟨(fun y hy=>nomatch hy),rfl⟩
 | cons z ws ih=>
  cases r using RA1 with
  | cons r1 r2=>
   obtain ⟨i1,i2⟩:=ih r2
   cases r1 using RS with
   | str u=>
    refine ⟨fun y hy=>?_,by rw [E9,E9,i2]⟩
    rcases EV.mp hy with rfl | hy
    ·exact eqGives_str z w u t
    ·exact i1 y hy
noncomputable def isW (w:Str):Value->Bool
 | .str z _=>z==w
 | _=>false
theorem kh {h:Heap} {as:List AV} {vs:List Value} (k:Nat) (r:ay μ h as vs):ay μ h (as.eraseIdx k) (vs.eraseIdx k):=by
 refine ay.ind (motive:=fun as vs=>∀ k,ay μ h (as.eraseIdx k) (vs.eraseIdx k)) r (fun zz=>trivial) (fun zz zz as vs h1 r ih k=>?_) k
 cases k with
 | zero=>exact r
 | succ k=>exact ⟨h1,ih k⟩
theorem qZ {ws:List Str} {vs:Array Value} {h:Heap} (r:ay μ h ((ws.map F4).map .dat) vs.toList) (w:Str) (t:Tok):vs.size=ws.length/\(∀ y,y∈vs->MeetsSeq.EqGives y (.str w t) (isW w y))/\∀ (k:Nat) (hk:k<vs.size) (hk':k<ws.length),isW w vs[k]=(ws[k]==w):=by
 obtain ⟨bs,ra⟩:=fR r
 obtain ⟨h1,h2⟩:=AA ra w t
 have hlen:vs.size=ws.length:=by have:=bP r;simpa using this
 refine ⟨hlen,fun y hy=>h1 y (by simpa using hy),fun k hk hk'=>?_⟩
 have:=congrArg (fun l=>l[k]?) h2
 simp [hk,hk'] at this
 exact this
theorem mn {α β:Type} (f:α->β):∀ (l:List α) (j:Nat),(l.eraseIdx j).map f=(l.map f).eraseIdx j:=by
 intro l
 induction l with
 | nil=>exact fun zz=>rfl
 | cons x l ih=>
  intro j
  cases j with
  | zero=>rfl
  | succ j=>rw [IU,E9,ih j,E9,IU]
theorem iY (its:Array Value) (n j:Nat):∃ n',FB (·.eraseIdxIfInBounds j) {cls:=.type "list",data:=.seq its n}={cls:=.type "list",data:=.seq (its.eraseIdxIfInBounds j) n'}:=by
 simp only [FB]
 exact ⟨_,rfl⟩
theorem ma {i j:Nat} {ws:List Str} {w:Str} (hx:σ[i]? = some (.list ((ws.map F4).map .dat))) (hz:i∉lv.fz) (hsz:ws.length<=FI) (hj:ws[j]? = some w) (hno:∀ m,m<j->ws[m]?≠some w) :
  dQ C lv σ (.builtin "list.remove") [.ref i,.dat (.str w)] (.dat .none) (σ.set i (.list (((ws.eraseIdx j).map F4).map .dat))):=by
 intro N ρ A env μ s vs Q E ok G F r hQ
 obtain ⟨u,v,rfl,⟨p,hp,e⟩,⟨as,rv⟩⟩:=r.e2
 subst e
 cases rv using RS with
 | str t=>
  obtain ⟨e1,items,⟨n,ho⟩,hr⟩:=G.sim.rep i p _ hp hx;have hl:p.1∈p.2:=by rw [e1];exact .head _
  obtain ⟨hlen,heq,hat⟩:=qZ hr w t;have hjl:j<ws.length:=(EL.mp hj).1;refine J3 PySem.F.slot_list_remove ⟨_,ho,rfl⟩ PySem.F.entry_list_remove (PySem.F.args_list_remove_2 _ _) (MeetsSeq.list_remove p.1 items n (.str w t) (isW w) heq j (by omega) ?_ (fun m hm hlt=>?_) (by rw [hlen];exact hsz)) ⟨ho,?_⟩
  ·rw [hat j (by omega) hjl]
   have:=(EL.mp hj).2
   rw [this];exact beq_self_eq_true w
  ·rw [hat m hm (by omega)]
   refine beq_eq_false_iff_ne.mpr fun q=>hno m hlt ?_
   rw [Eb (by omega),q]
  ·obtain ⟨n',e'⟩:=iY items n j
   have hpl:(s.heap.update p.1 (FB fun xs=>xs.eraseIdxIfInBounds j)).PlainList p.1 (items.eraseIdxIfInBounds j):=⟨n',by rw [FU _ ho (by rw [e'];rfl),e']⟩
   have k:=gV (A:=A) hl (G7.update (h:=s.heap) (a:=p.1) (f:=FB fun xs=>xs.eraseIdxIfInBounds j))
   have' hW:∀ b,b∈p.2\/FA A b->b∈μ.hid\/s.heap.objs.size<=b:=G.fw fun b hb=>.inl (G.sim.foot b (aj (EN hp) hb))
   refine hQ _ μ _ (aS.write G F hp hz k ⟨e1,_,hpl,?_⟩) ⟨[],.none⟩;have' he:(items.eraseIdxIfInBounds j).toList=items.toList.eraseIdx j:=by simp
   have' he2:((ws.eraseIdx j).map F4).map AV.dat=((ws.map F4).map AV.dat).eraseIdx j:=by rw [mn,mn]
   rw [he,he2]
   exact kh j (ay.mono (Ext.refl _ _) k hW hr)
theorem tR {i:Nat} {ws:List Str} {w:Str} (hx:σ[i]? = some (.list ((ws.map F4).map .dat))) (hno:w∉ws) (hq:lv.q=true):zt C lv σ (.builtin "list.remove") [.ref i,.dat (.str w)] "ValueError" σ:=by
 intro N ρ A env μ s vs Q E ok G F r hE
 obtain ⟨u,v,rfl,⟨p,hp,e⟩,⟨as,rv⟩⟩:=r.e2
 subst e
 cases rv using RS with
 | str t=>
  obtain ⟨e1,items,⟨n,ho⟩,hr⟩:=G.sim.rep i p _ hp hx;obtain ⟨hlen,heq,hat⟩:=qZ hr w t;refine ao (J3 PySem.F.slot_list_remove ⟨_,ho,rfl⟩ PySem.F.entry_list_remove (PySem.F.args_list_remove_2 _ _) (MeetsSeq.list_remove_none p.1 items n (.str w t) (isW w) heq (fun m hm=>?_)) ⟨ho,G.quiet hq,fun h' tk x hx hl=>?_⟩)
  ·rw [hat m hm (by omega)]
   exact beq_eq_false_iff_ne.mpr fun q=>hno (q▸Gi (by omega))
  ·obtain ⟨P,f⟩:=nY (tk:=tk) G F hx hl
   exact hE x μ _ P f
theorem tM {ds:List PyData} (hz:ds.length<=FI):dQ C lv σ (.type "list") [.dat (.list ds)] (.ref σ.length) (σ++[.list (ds.map .dat)]):=by
 intro N ρ A env μ s vs Q E ok G F r hQ
 obtain ⟨v,rfl,⟨as,rv⟩⟩:=r.e1
 cases rv using RL with
 | @list l o items n as ho hc hd hr=>
  have' hlen:items.size=ds.length:=a9 hr;refine ao (call_list_seq l (.inl rfl) (Ez _ ho) hc hd (fun h' c' hk hnew hsz=>?_) (by rw [hlen];exact hz))
  have k:aL A0 NoW s {s with heap:=h'}:=ab (tk:=s.toks) hsz hk;have' hlt:s.heap.objs.size<h'.objs.size:=Ed hnew;have P2:=aS.alloc (a:=s.heap.objs.size) (fp:=[s.heap.objs.size]) (o:=.list (ds.map .dat)) (s':={s with heap:=h'}) G F k (fun b hb=>by rw [EJ.mp hb];exact ⟨EK _,hlt⟩) (.head _)
   ⟨rfl,items,⟨_,hnew⟩,ay.mono (s':={s with heap:=h'}) (⟨⟨_,rfl,fun p hp b hb=>by rw [EJ.mp hp] at hb;rw [EJ.mp hb];exact EK _⟩,fun zz h=>EG.mpr (.inr h),fun b h=>by
    rcases EG.mp h with q | q
    ·rw [EJ.mp q];exact .inr (EK _)
    ·exact .inl q⟩:Ext μ (μ.add s.heap.objs.size [s.heap.objs.size]) s.heap.objs.size) k noW (jO hr)⟩
  refine hQ _ _ _ P2 ⟨(s.heap.objs.size,[s.heap.objs.size]),?_,rfl⟩
  show (μ.objs++[_])[σ.length]? = _
  rw [<- G.sim.len,EY]
theorem fh.sub {b:List Stmt} (h:fh C lv N b ρ σ X ρ₁ σ₁) (hs:Sub ρ₁ ρ₂):fh C lv N b ρ σ X ρ₂ σ₁:=fun A env μ s Q E ok G F hE=>h A env μ s Q E ok G F fun x μ' s' P f=>hE x μ' s' (P.sub hs) f
end
section
variable {C:Cx} {lv:Lv} {N:aF} {ρ ρ₁ ρ₂ ρ₃ ρ' ρ₀:aO} {σ σ₁ σ₂ σ₃ σ':aC} {o:Out} {A:Around} {env:Env} {μ μ' μ₁:Mu} {s s' s₁:Shared} {a b:AV} {X:String} {e:Addr} {n:Nat}
theorem mu {t1 t2:Expr} {k:Nat} {pos:Pos} {d1 d2:PyData} (h1:ci C lv N t1 (.dat d1) ρ σ ρ₁ σ₁) (h2:ci C lv N t2 (.dat d2) ρ₁ σ₁ ρ₂ σ₂) (hq:autoParam (lv.q=true) aR)
  (he:autoParam (∀ env,IJ [t1,t2] env=[(false,assign t1 env),(false,assign t2 env)]) aI):ci C lv N (.Tuple [t1,t2] k pos) (.dat (.tuple [d1,d2])) ρ σ ρ₂ σ₂:=by
 intro A env μ s v Q E ok G F qq1 hQ
 obtain ⟨as,r⟩:=qq1
 cases r using RT with
 | @tuple t o items n _ ho hc hd hr=>
  have' ht:IsTup s.heap t items:=⟨o,Ez _ ho,hc,n,hd⟩;have hlen:items.size=2:=a9 hr
  rw [arm_assign_Tuple,he]
  refine ED (FT ?_);unfold unpack
  rw [show ([(false,assign t1 env),(false,assign t2 env)]:List (Bool×(Value->Sem Unit))).length=items.size by rw [hlen];rfl,show ([(false,assign t1 env),(false,assign t2 env)]:List (Bool×(Value->Sem Unit))).findIdx? (·.1)=none from rfl]
  refine ED (ao (E1 (unpackItems_tuple (G.quiet hq) ht fun h' hx hsz=>?_)))
  have' k0:aL A0 NoW s {s with heap:=h'}:=ab (tk:=s.toks) hsz fun b o e=>hx b o (FG (Ed e)) e
  have P0:=aS.grow G F k0;obtain ⟨v1,v2,hv⟩:∃ v1 v2,items.toList=[v1,v2]:=by
   rcases h:items.toList with _ | ⟨v1,_ | ⟨v2,_ | ⟨v3,r⟩⟩⟩<;>rw [<- FQ,h] at hlen<;>first | exact ⟨_,_,rfl⟩ | simp at hlen
  rw [hv] at hr ⊢
  cases hr with
  | cons r1 hr=>cases hr with
   | cons r2 hr=>
    have' r1':af μ h' (.dat d1) v1:=P0.val G F ⟨_,r1⟩;have' r2':af μ h' (.dat d2) v2:=P0.val G F ⟨_,r2⟩
    show wpAny _ _ (assignInOrder [assign t1 env,assign t2 env] [v1,v2]) _ _ _
    refine ED (E1 (h1 A env μ _ v1 _ _ ok P0.good P0.fr r1' fun μ1 s1 P1=>?_))
    refine ED (E1 (h2 A env μ1 s1 v2 _ _ ok P1.good P1.fr (P1.val P0.good P0.fr r2') fun μ2 s2 P2=>?_))
    exact EI (hQ μ2 s2 (P0.trans (P1.trans P2)))
theorem l8:∀ {a b:List Int},a.Perm b->a.Pairwise (·<=·)->b.Pairwise (·<=·)->a=b:=by
 intro a
 induction a with
 | nil=>intro b hp _ _;exact (Ju.mp hp).symm
 | cons x a ih=>
  intro b hp ha hb
  cases b with
  | nil=>exact absurd hp.length_eq (by simp)
  | cons y b=>
   rw [Fh] at ha hb
   have' h1:y<=x:=by
    rcases EV.mp (hp.mem_iff.mp (.head _)) with q | q
    ·exact Int.le_of_eq q.symm
    ·exact hb.1 x q
   have' h2:x<=y:=by
    rcases EV.mp (hp.mem_iff.mpr (.head _)) with q | q
    ·exact Int.le_of_eq q.symm
    ·exact ha.1 y q
   obtain rfl:x=y:=Int.le_antisymm h2 h1
   rw [ih hp.cons_inv ha.2 hb.2]
theorem xv {h:Heap} {ns:List Int} {vs:List Value} {as:List Addr} (q:FZ h vs (ns.map Fz) as):IntsAre vs ns:=by
 induction ns generalizing vs as with
 | nil=>cases q using RA0;exact .nil
 | cons n ns ih=>cases q using RA1 with
  | cons r t=>cases r using RI;exact .cons _ _ (ih t)
theorem xP {h:Heap} {vs:List Value} {ns:List Int} (q:IntsAre vs ns):∃ as,FZ h vs (ns.map Fz) as:=by
 induction q with
 | nil=>exact ⟨_,.nil⟩
 | cons n t _ ih=>exact let ⟨_,z⟩:=ih;⟨_,.cons (.int n t) z⟩
noncomputable def xC (ns:List Int):List Int:=ns.mergeSort fun a b=>decide (a<=b)
theorem q7 {ns ms:List Int} (hp:ms.Perm ns) (hs:ms.Pairwise (·<=·)):ms=xC ns:=by
 refine l8 (hp.trans (Gc ..).symm) hs ?_
 have:=IV (le:=fun (a b:Int)=>decide (a<=b)) (fun a b c h1 h2=>by simp at *;omega) (fun a b=>by simp;omega) ns
 exact this.imp fun h=>by simpa using h
theorem tV {ns:List Int} (hz:ns.length<64):fH C lv σ (.builtin "sorted") [.dat (.list (ns.map .int))] (.list ((xC ns).map .int)):=by
 intro A μ s vs Q E ok G r hQ
 obtain ⟨v,rfl,⟨as,rv⟩⟩:=r.e1
 cases rv using RL with
 | @list l o items n as ho hc hd hr=>
  have' hlen:items.size=ns.length:=(a9 hr).trans (EF ..);have' hl:s.heap.IsList l items.toList.toArray:=⟨o,Ez _ ho,hc,n,by simpa using hd⟩
  refine ao (sorted_ints hl (xv hr) (by rw [FQ,hlen];exact hz) fun out ns' a1 a2 a3 hsz=>?_)
  obtain ⟨e,he⟩:=sortedAll_at s.heap items.toList out;have k:aL A0 NoW s {s with heap:=Kl s.heap items.toList out}:=ab (tk:=s.toks) hsz fun b o q=>sortedAll_old q
  rw [q7 a2 a3] at a1
  obtain ⟨cs,z⟩:=xP (h:=cL μ.hid (Kl s.heap items.toList out)) a1;exact hQ _ _ _ k (.list (Fc _ he fun hm=>absurd (G.lt _ hm) (E3.mpr (Ej _))) rfl rfl (by simpa using z))
theorem mf {v0:PyData} {Tx T:String} (hty:typeOf (.type T)=pure (.type "type")) (hsub:IT (.type Tx) (.type T)=pure true) (ht:∀ h v as (s:Shared),s.heap=h->Reads h v v0 as->s.TypeIs v Tx) :
  fH C lv σ (.builtin "isinstance") [.dat v0,.con (.type T)] (.bool true):=by
 intro A μ s vs Q E ok G r hQ
 obtain ⟨v,c,rfl,⟨as,rv⟩,hc⟩:=r.e2
 obtain rfl:c=.type T:=hc
 exact call_isinstance (isinstance_true hty hsub) ⟨ht _ _ _ s rfl (cP rv),hQ _ s [] (aL.refl _ _ _) (.bool _)⟩
theorem rj {ds:List PyData}:fH C lv σ (.builtin "isinstance") [.dat (.tuple ds),.con (.type "tuple")] (.bool true):=
 mf (Tx := "tuple") (by show pure (Fa ((Manifest.find? "tuple").elim "type" fun x=>x.metatype))=_;kernel_rfl) (by rw [Gp];kernel_rfl) fun h v as s e r=>by
  cases r with
  | tuple ho hc=>subst e;exact ⟨_,ho,hc⟩
theorem yS (v:Value):∀ (n:Nat) (acc:Array Value),(LI (fun x1 x2=>x1++x2) acc (FO n #[v])).toList=acc.toList++FO n v:=by
 intro n
 induction n with
 | zero=>
  intro acc
  simp
 | succ n ih=>
  intro acc
  rw [Ks,Fk,ih,Ks];simp
theorem nU {h:Heap} {v:Value} {d:PyData} {as:List Addr} (r:Reads h v d as):∀ n:Nat,∃ cs,FZ h (FO n v) (FO n d) cs:=by
 intro n
 induction n with
 | zero=>exact ⟨_,.nil⟩
 | succ n ih=>exact ih.elim fun zz z=>⟨_,.cons r z⟩
theorem uX (l:Addr) (items:Array Value) (n:Nat) (d:Option Addr) (sl:Array (Option Value)) (x:Int) (u:Tok) (h0:0<=x) (h1:x<=1000) (hsz:items.size * x.toNat<=1000) :
  Meets (Ep.«list.__mul__» ⟨[.ref l,.int x u],[]⟩) (fun zz R s=>s.heap.get? l=some {cls:=.type "list",dict:=d,data:=.seq items n,slots:=sl}/\R (.ok (.ret (Fj s.heap.objs.size))) {s with heap:=s.heap.push {cls:=Fa "list",data:=Data.seq (LI (fun x1 x2=>x1++x2) #[] (FO (if items.isEmpty=true then 0 else x.toNat) items))},toks:=s.toks}):=
 lm_list_mul_any l items n d sl x u (by simp [Ep.List.listFitsIndex];omega) (by omega) (by simp [Ep.List.listTooLong,FI];omega)
theorem AQ {α:Type} {l:List α} (h:l.length=1):∃ v,l=[v]:=List.length_eq_one_iff.mp h
theorem xd {d:PyData} {m:Int} (hm0:0<=m) (hm:m<=1000):Op2 C (.list [d]) (.int m) (.list (FO m.toNat d)) (Iy .Mult):=by
 refine .mk ?_
 intro A hot u v s as bs Q E hu ru rv hh hQ
 cases rv using RI with
 | int t=>cases ru using RL with
  | @list l o items k as ho hc hd hr=>
   obtain ⟨cls,dd,data,sl⟩:=o
   simp only at hc hd
   subst hc hd;obtain ⟨v,hv'⟩:=AQ (by have h:=a9 hr;exact h)
   have' hv:items = #[v]:=Array.toList_inj.mp hv';subst hv;have ho':=Ez _ ho;have hsz':(#[v]:Array Value).size * m.toNat<=1000:=by rw [Gv];show 1 * m.toNat<=1000;omega
   have' L1:=uX l #[v] k dd sl m t hm0 hm hsz';refine wpAny_binaryOp_repeat_ref (T := "list") (U := "int") (by decide) ⟨_,ho',rfl⟩ (fun s'=>typeIs_int s' m t) noFill_list_mul PySem.F.fills_int_mul PySem.F.slot_int_rmul repeat_list PySem.F.slot_int_index.lookup
    (J3 PySem.F.slot_int_rmul (typeIs_int s m t) PySem.F.entry_int_rmul (PySem.F.args_int_rmul_2 _ _) (lm_int_rmul_list_any m t l #[v] k dd sl)
     ⟨ho',rfl,⟨_,ho',rfl⟩,J3 PySem.F.slot_list_mul ⟨_,ho',rfl⟩ PySem.F.entry_list_mul (PySem.F.args_list_mul_2 _ _)
      L1 ⟨ho',?_⟩⟩)
   have kk:aL A0 NoW s {s with heap:=s.heap.push {cls:=.type "list",data:=.seq (LI (fun x1 x2=>x1++x2) #[] (FO (if (#[v]:Array Value).isEmpty=true then 0 else m.toNat) #[v]))}}:=bD _ s.toks
   obtain ⟨bs1,r1⟩:∃ bs,Reads (cL hot s.heap) v d bs:=by cases hr with | cons r _=>exact ⟨_,r⟩
   obtain ⟨cs,z⟩:=nU (PyProof.Rows.Reads.keeps (cU (hot:=hot) kk) r1) m.toNat;have' e0:(LI (fun x1 x2=>x1++x2) #[] (FO (if (#[v]:Array Value).isEmpty=true then 0 else m.toNat) #[v])).toList=FO m.toNat v:=by
    rw [show (if (#[v]:Array Value).isEmpty=true then 0 else m.toNat)=m.toNat by simp,yS];rfl
   exact hQ _ _ _ kk (.list (as:=cs) (Fc _ (ES _ rfl) fun hm=>E5 _ (hh _ hm)) rfl rfl (by rw [e0];exact z))
end
theorem eX.ofT {prog:Fq} {w:World} {A:Around} {elts:List Expr} {k:Nat} {pos:Pos} {I:Addr} {fp wr:List Addr} {n:Nat} {Pt:Nat->Array Value->Prop} {St:Nat->Heap->Prop} {Md:Nat->Addr->Heap->Prop} (W:WalksT prog w A I fp wr n Pt St Md) :
  eX prog w A (.Tuple elts k pos) I fp wr n (fun i v n h=>∃ T vals,v=.ref T/\Pt i vals/\n<=T/\h.IsTuple T vals) St where
 sub:=W.sub
 frame:=W.frame
 item:=fun i s Q K E hi st hQ hK=>ao (W.item i s _ _ hi st fun T vals h' tk hP hT htup hm hk hl=>hQ (.ref T) _ (ao (W.go elts k pos i T _ _ _ hm fun h2 st2 hk2 hl2=>
  hK (.ref T) h2 tk ⟨T,vals,rfl,hP,hT,htup.at fun o e=>hk2 T o (W.apart i T _ hm) e⟩ st2 (fun b o hb e=>hk2 b o hb (hk b o hb e)) (EH hl hl2))))
 done:=W.done
 self:=W.self
theorem uM (z l1 l2:Nat) (h1:l1<z) (h2:l2<z):ZipApart (z+4) (z+2) (z+3) z (z+1) l1 l2:=by
 constructor<;>first | exact FG (by omega) | exact I4 (by omega)
theorem xh {z n b:Nat} (hn:n=z+5) (hb:b=z+4\/b=z+3\/b=z\/b=z+1):z<=b/\b<n:=by omega
theorem zZ {z:Nat} (h:z+2=z+4\/z+2=z+3\/z+2=z\/z+2=z+1):False:=by omega
noncomputable def wA (p:PyData×PyData):AV:=.dat (.tuple [p.1,p.2])
section
variable {C:Cx} {lv:Lv} {N:aF} {ρ ρ₁ ρ₂ ρ₃ ρ' ρ₀:aO} {σ σ₁ σ₂ σ₃ σ':aC}
theorem wR {tg e f:Expr} {rp rpos:Pos} {xs ys:List PyData} (g:bx N "zip") (hm:C.mg "zip" = none) (hb:C.mb "zip" = some (.type "zip")) (he:aG C lv N e ρ σ (.dat (.list xs)) ρ₁ σ₁) (hf:aG C lv N f ρ₁ σ₁ (.dat (.list ys)) ρ₂ σ₂)
  (ht:autoParam (zp tg=true) aR) (hn:autoParam (cA e=true) aR) (hn':autoParam (cA f=true) aR) (hq:autoParam (lv.q=true) aR):gO C lv N tg (.Call (.Name "zip" rp) [e,f] [] rpos) [] ρ σ ((xs.zip ys).map wA) ρ₂ σ₂:=by
 intro A env μ s Q E ok G F hQ
 refine GL ?_
 refine kK (pos:=rp) g hm hb A env μ s _ _ ok G F fun v μ0 s0 P0 e0=>?_
 obtain rfl:=e0
 rw [show backTo rpos (Fy [e,f] env)=[(false,eval e env),(false,eval f env)] by rw [a7 hn,a7 hn'];rfl]
 refine PySem.callWith_type rfl (FS (FW (he A env μ0 s0 _ _ ok P0.good P0.fr fun nv μ1 s1 P1 r=>FW (hf A env μ1 s1 _ _ ok P1.good P1.fr fun nv' μ2 s2 P2 qq1=>Fs ?_))))
 obtain ⟨as',r'⟩:=qq1
 obtain ⟨as,r⟩:=P2.val P1.good P1.fr r
 cases r using RL with
 | @list l1 o1 vs n1 as ho1 hc1 hd1 hr1=>cases r' using RL with
 | @list l2 o2 ws n2 bs ho2 hc2 hd2 hr2=>
  have hl1:s2.heap.IsList l1 vs:=⟨o1,Ez _ ho1,hc1,n1,hd1⟩;have hl2:s2.heap.IsList l2 ws:=⟨o2,Ez _ ho2,hc2,n2,hd2⟩;have b1:l1<s2.heap.objs.size:=Ed (Ez _ ho1);have b2:l2<s2.heap.objs.size:=Ed (Ez _ ho2);have z1:vs.size=xs.length:=a9 hr1;have z2:ws.size=ys.length:=a9 hr2;have P02:=P0.trans (P1.trans P2)
  refine call_zip_2 hl1 hl2 fun h' i1 i2 i3 i4 i5 i6 i7=>?_
  refine wpAny_pyIter_zip i1 ?_;have k:aL A0 NoW s2 {s2 with heap:=h'}:=ab (tk:=s2.toks) (by rw [i6];exact EP _ _) i7
  generalize hz:s2.heap.objs.size=z at *
  have' D:ZipApart (z+4) (z+2) (z+3) z (z+1) l1 l2:=uM z l1 l2 b1 b2;have W:=WalksT.zip2 (prog:=C.prog) (w:=C.w) (A:=A) (P02.good.quiet hq) (z+4) (z+2) (z+3) z (z+1) l1 l2 D vs ws
  rw [show min vs.size ws.size=((xs.zip ys).map wA).length by simp [z1,z2]] at W
  cases tg<;>first | cases ht | skip
  refine (fun (hh:_/\_)=>hQ _ _ _ (P02.trans hh.1) hh.2) (kB (s':={s2 with heap:=h'}) (ls:=[]) (base:=s.heap.objs.size) (news:=[z+4,z+3,z,z+1]) P02.good P02.fr P02.kept.le (.ofT W) (fun b hb=>by
    rw [hz]
    simp only [EV,Fe,or_false] at hb
    exact xh i6 hb) (fun b hb=>hb) k ⟨i1,i2,⟨_,_,i3⟩,i4,i5,hl1.at fun o e=>i7 _ o e,hl2.at fun o e=>i7 _ o e⟩ (fun b hb=>?_) fun i v a n hp μ' e hh hlt m=>?_)
  ·simp only [EV,Fe,or_false] at hb
   rcases hb with rfl | rfl | rfl | rfl | rfl | rfl | rfl
   ·exact .inl (by simp)
   ·refine .inr (.inl ⟨by rw [hz];exact EP _ _,by show _<h'.objs.size;rw [i6];exact HS (by decide) z,fun q=>?_⟩)
    simp only [EV,Fe,or_false] at q
    exact zZ q
   ·exact .inl (by simp)
   ·exact .inl (by simp)
   ·exact .inl (by simp)
   ·exact .inr (.inr ⟨hz▸b1,nA P02.good P02.fr ho1,fun q=>absurd q (kN ho1)⟩)
   ·exact .inr (.inr ⟨hz▸b2,nA P02.good P02.fr ho2,fun q=>absurd q (kN ho2)⟩)
  ·obtain ⟨T,vals,hv,⟨x,y,hx,hy,hvals⟩,hT,hTu⟩:=hh
   subst hv hvals
   rw [Em] at e
   obtain ⟨p,hp',rfl⟩:=FP.mp e;obtain ⟨ex,ey⟩:=List.getElem?_zip_eq_some.mp hp';obtain ⟨cs1,r1⟩:=bh hr1 i x p.1 (by simpa using hx) ex
   obtain ⟨cs2,r2⟩:=bh hr2 i y p.2 (by simpa using hy) ey
   obtain ⟨o,ho,hc,nn,hd⟩:=hTu;exact ⟨_,.tuple (Fc _ ho fun q=>absurd (hlt _ q) (E3.mpr hT)) hc hd (.cons (m.rd r1) (.cons (m.rd r2) .nil))⟩
end
structure cE (K:Frag) (c:Addr):Prop where
 pg:K9 K c "" = true
 hd:hasDictIn K c=true
 sa:findIn K (.ref c) "__setattr__" = some (some (.builtin "object.__setattr__"))
 po:plainOver K c=true
theorem cE.ga {K:Frag} {c:Addr} (h:cE K c):findIn K (.ref c) "__getattribute__" = some (some (.builtin "object.__getattribute__")):=by
 have:=h.pg;unfold K9 at this;simp only [Ea,beq_iff_eq] at this;exact this.1
theorem cE.ge {K:Frag} {c:Addr} (h:cE K c):findIn K (.ref c) "__getattr__" = some none:=by
 have:=h.pg;unfold K9 at this;simp only [Ea,beq_iff_eq] at this;exact this.2
noncomputable def hG:AV->Bool
 | .con v=>handedIn v
 | _=>true
theorem jY {μ:Mu} {h:Heap} {a:AV} {v:Value} (r:af μ h a v) (ha:hG a=true):handedIn v=true:=by
 cases a with
 | dat d=>obtain ⟨as,r⟩:=r;cases r<;>rfl
 | ref i=>obtain ⟨p,_,rfl⟩:=r;rfl
 | con c=>obtain rfl:=r;exact ha
theorem wN {P:Params} {μ:Mu} {h:Heap} {name:Str} {a:AV} {xs:List (Str×AV)} {es:List GT} (r:cX P μ h xs es):xs.lookup name=some a->∃ e,es.find? (·.key.isStr name)=some e/\af μ h a e.val:=by
 refine cX.ind r (fun e=>by cases e) fun x b e xs es hv zz ih hl=>?_
 obtain ⟨_,⟨t,hk⟩,hv⟩:=hv
 rw [GU] at hl
 rw [JE,hk]
 show ∃ e',(match x==name with | true=>some e | false=>es.find? fun x=>x.key.isStr name)=some e'/\_
 by_cases q:x=name
 ·subst q
  rw [beq_self_eq_true] at hl ⊢
  cases hl
  exact ⟨e,rfl,hv⟩
 ·rw [beq_eq_false_iff_ne.mpr q]
  rw [beq_eq_false_iff_ne.mpr (Ne.symm q)] at hl
  exact ih hl
theorem te {P:Params} {μ:Mu} {h:Heap} {name:Str} {a:AV} {xs:List (Str×AV)} {es:List GT} (r:cX P μ h xs es) (hl:xs.lookup name=some a):∃ v,getL name es=some (some v)/\af μ h a v:=by
 obtain ⟨e,he,hv⟩:=wN r hl
 exact ⟨e.val,by unfold getL;rw [he],hv⟩
theorem qt {P:Params} {μ:Mu} {h:Heap} {name:Str} {xs:List (Str×AV)} {es:List GT} (r:cX P μ h xs es):xs.lookup name=none->es.find? (·.key.isStr name)=none/\es.any (·.refKey)=false:=by
 refine cX.ind r (fun zz=>⟨rfl,rfl⟩) fun x b e xs es hv zz ih hl=>?_
 obtain ⟨_,⟨t,hk⟩,hv⟩:=hv
 rw [GU] at hl
 have q:x≠name:=fun q=>by subst q;rw [beq_self_eq_true] at hl;cases hl
 rw [beq_eq_false_iff_ne.mpr (Ne.symm q)] at hl
 obtain ⟨h1,h2⟩:=ih hl
 refine ⟨?_,?_⟩
 ·rw [JE,hk]
  show (match x==name with | true=>some e | false=>es.find? fun x=>x.key.isStr name)=none
  rw [beq_eq_false_iff_ne.mpr q];exact h1
 ·rw [IE,h2];unfold GT.refKey;rw [hk];rfl
theorem lB {P:Params} {μ:Mu} {h:Heap} {name:Str} {xs:List (Str×AV)} {es:List GT} (r:cX P μ h xs es) (hl:xs.lookup name=none):getL name es=some none:=by
 obtain ⟨h1,h2⟩:=qt r hl
 unfold getL;rw [h1];simp only [h2];rfl
theorem py {P:Params} {μ:Mu} {h:Heap} {xs:List (Str×AV)} {es:List GT} (r:cX P μ h xs es):es.any (·.refKey)=false:=by
 refine cX.ind r rfl fun x b e xs es hv zz ih=>?_
 obtain ⟨_,⟨t,hk⟩,hv⟩:=hv
 rw [IE,ih];unfold GT.refKey;rw [hk];rfl
noncomputable def lg (name:Str) (a:AV):List (Str×AV)->List (Str×AV)
 | []=>[(name,a)]
 | (x,b) :: r=>if x==name then (x,a) :: r else (x,b) :: lg name a r
theorem wm {P:Params} {μ:Mu} {h:Heap} {name:Str} {a:AV} {v:Value} {t:Tok} (rv:af μ h a v) {xs:List (Str×AV)} {es:List GT} (r:cX P μ h xs es):cX P μ h (lg name a xs) (putL name (H0 P name) (.str name t) v es):=by
 refine cX.ind r ⟨⟨rfl,⟨t,rfl⟩,rv⟩,trivial⟩ fun x b e xs es hv r ih=>?_
 obtain ⟨h1,⟨u,hk⟩,hv⟩:=hv
 unfold lg putL
 rw [hk]
 show cX P μ h _ (if (x==name)=true then _ else _)
 by_cases q:(x==name)=true
 ·rw [if_pos q,if_pos q];exact ⟨⟨h1,⟨u,rfl⟩,rv⟩,r⟩
 ·rw [if_neg q,if_neg q];exact ⟨⟨h1,⟨u,hk⟩,hv⟩,ih⟩
theorem xM (name:Str) (hs:Int) (k v:Value):∀ es:List GT,(putL name hs k v es).length<=es.length+1:=by
 intro es
 induction es with
 | nil=>exact EK _
 | cons e r ih=>
  unfold putL
  split
  ·exact Ej _
  ·rw [E0,E0];exact GK ih
theorem wG {P:Params} {μ:Mu} {h:Heap} {xs:List (Str×AV)} {es:List GT} (r:cX P μ h xs es):es.length=xs.length:=cX.ind r rfl fun zz zz zz zz zz zz zz ih=>congrArg (· + 1) ih
section
variable {C:Cx} {lv:Lv} {N:aF} {ρ ρ₁ ρ₂ ρ₃ ρ' ρ₀:aO} {σ σ₁ σ₂ σ₃ σ':aC} {o:Out} {A:Around} {env:Env} {μ μ':Mu} {s s':Shared} {a b:AV} {i:Nat} {c:Addr} {xs:List (Str×AV)} {name:Str} {pos apos:Pos}
theorem Sim.inst (S:Sim C μ σ s.heap) (hx:σ[i]? = some (.inst c xs)) {v:Value} (r:af μ s.heap (.ref i) v) :
  ∃ p dx es n,v=.ref p.1/\μ.objs[i]? = some p/\p.2=[p.1,dx]/\p.1≠dx/\s.heap.get? dx=some (dictOf es n)/\cX C.w.params μ s.heap xs es/\W.InstAt s.heap p.1 (Gs c dx) c (some (dictOf es n)):=by
 obtain ⟨p,hp,rfl⟩:=r
 obtain ⟨dx,es,n,e,ne,h1,h2,h3⟩:=S.rep i p _ hp hx
 exact ⟨p,dx,es,n,rfl,hp,e,ne,h2,h3,⟨h1,rfl,rfl,h2⟩⟩
theorem yA {v:Value} {expr:Bool} {Q:Value->Shared->Prop} {E:Value->Shared->Prop} (ok:C.Ok) (G:aX C lv A μ σ s) (F:aM A N env μ ρ s.heap) (hx:σ[i]? = some (.inst c xs)) (hc:cE C.K c) (hf:findIn C.K (.ref c) name=some none) (hl:xs.lookup name=some a) (ha:hG a=true) (r:af μ s.heap (.ref i) v)
  (hQ:∀ u μ' s',aS C lv A N env μ s ρ σ μ' s'->af μ' s'.heap a u->Q u s'):wpAny (model C.prog C.w) A (JP v name expr) Q E s:=by
 obtain ⟨p,dx,es,n,rfl,hp,e,ne,hd,hr,I⟩:=G.sim.inst hx r
 obtain ⟨u,hu,ru⟩:=te hr hl
 exact get_value (G.inK ok) I hc.ga (findObj_own hc.hd hf rfl hu) (jY ru ha) (hQ u μ _ (aS.grow G F (ae _)) ru)
theorem pp {dx:Addr} {es es':List GT} {n n':Nat} {h:Heap} {f:Obj->Obj} (hd:h.get? dx=some (dictOf es n)) (hf:f (dictOf es n)=dictOf es' n'):(h.update dx f).get? dx=some (dictOf es' n'):=hf▸FU _ hd (hf▸rfl)
theorem xT {v u:Value} {Q:Unit->Shared->Prop} {E:Value->Shared->Prop} (ok:C.Ok) (G:aX C lv A μ σ s) (F:aM A N env μ ρ s.heap) (hx:σ[i]? = some (.inst c xs)) (hz:i∉lv.fz) (hc:cE C.K c) (hf:findIn C.K (.ref c) name=some none) (hn:xs.length<1000)
  (r:af μ s.heap (.ref i) v) (ru:af μ s.heap a u) (hQ:∀ s',aS C lv A N env μ s ρ (σ.set i (.inst c (lg name a xs))) μ s'->Q () s'):wpAny (model C.prog C.w) A (setAttr v name u) Q E s:=by
 obtain ⟨p,dx,es,n,rfl,hp,e,ne,hd,hr,I⟩:=G.sim.inst hx r
 have X:=G.inK ok
 refine set_plain X I hc.sa ?_
 have' I':W.InstAt ({s with toks:=s.toks+1}:Shared).heap p.1 (Gs c dx) c (some (dictOf es n)):=I
 refine osa_open (s:={s with toks:=s.toks+1}) X I' hc.po (r:=none) (by unfold takerIn;rw [hf];rfl) fun bb=>?_
 obtain ⟨cd,hcd,hdd⟩:=Lw hc.hd
 refine ED (EI (ED (ED (wpAny_loadPart I.at_ (ED (Looks.here (s:={s with toks:=s.toks+1}) (Lk X hcd) ?_))))))
 rw [hdd]
 refine EI (a:=some dx) (ED (EI (ED ?_)))
 unfold nsSet
 refine ED (ED (Ik (EI (ED (wpAny_mkText (ED (wpAny_loadPart hd ?_)))))))
 have' hrk:=py hr
 have' cc:(!es.toArray.any (·.key.isStr name) && es.toArray.any (·.refKey))=false:=by
  rw [show es.toArray.any (·.refKey)=false by rw [<- Array.any_toList];exact hrk,Bool.and_false]
 dsimp only
 rw [aRefKeyMayBeTheName_at,cc]
 have' e1:Obj.putName name (H0 C.w.params name) (.str name (s.toks+1)) u (dictOf es n)=dictOf (putL name (H0 C.w.params name) (.str name (s.toks+1)) u es) (putN name es n):=putName_dict ..
 have hd':=pp hd e1
 refine wpAny_updatePart hd ?_
 refine ED (wpAny_lookBehind hd' (by
  have h1:=xM name (H0 C.w.params name) (.str name (s.toks+1)) u es;have h2:=wG hr;exact pastItsLine_dict (by rw [Gv,ER];omega)) ?_)
 refine EI (hQ _ ?_)
 have' hmem:p∈μ.objs:=EN hp
 have k:aL A (·∈p.2) s {s with heap:=s.heap.update dx (Obj.putName name (H0 C.w.params name) (.str name (s.toks+1)) u),toks:=s.toks+1+1}:=
  ⟨_,_,_,rfl,⟨Ec (Gj ..).symm,id⟩,fun b o hb eb=>.inl ((Ge _ _ _ _ (fun q=>hb (by rw [e,<- q];simp))).trans eb)⟩
 have hW:∀ b,b∈p.2\/FA A b->b∈μ.hid\/s.heap.objs.size<=b:=G.fw fun b hb=>.inl (G.sim.foot b (aj hmem hb))
 exact aS.write G F hp hz k ⟨dx,_,_,e,ne,(Ge _ _ _ _ ne).trans I.at_,hd',wm (af.mono (Ext.refl _ _) k hW ru) (cX.mono (Ext.refl _ _) k hW hr)⟩
end
section
variable (C:Cx) (lv:Lv) (N:aF)
noncomputable def qC (es:List Expr) (kws:List IH) (ρ:aO) (σ:aC) (as:List AV) (ks:List (Str×AV)) (ρ':aO) (σ':aC):Prop:=
 ∀ (A:Around) (env:Env) (μ:Mu) (s:Shared) (pos:Pos) (f:Value) (Q:Args->Shared->Prop) (E:Value->Shared->Prop),C.Ok->aX C lv A μ σ s->aM A N env μ ρ s.heap->
  (∀ vs kvs μ' s',aS C lv A N env μ s ρ' σ' μ' s'->ay μ' s'.heap as vs->dE μ' s'.heap ks kvs->Q ⟨vs,kvs⟩ s')->wpAny (model C.prog C.w) A (Ka f true (backTo pos (Fy es env)) (HE pos (GH kws env))) Q E s
noncomputable def bv (σ:aC) (o:AV) (name:Str) (a:AV):Prop:=
 ∀ (N:aF) (ρ:aO) (A:Around) (env:Env) (μ:Mu) (s:Shared) (v:Value) (expr:Bool) (Q:Value->Shared->Prop) (E:Value->Shared->Prop),C.Ok->aX C lv A μ σ s->aM A N env μ ρ s.heap->af μ s.heap o v->
  (∀ u μ' s',aS C lv A N env μ s ρ σ μ' s'->af μ' s'.heap a u->Q u s')->wpAny (model C.prog C.w) A (JP v name expr) Q E s
noncomputable def im (σ:aC) (o:AV) (name:Str) (a:AV) (σ':aC):Prop:=
 ∀ (N:aF) (ρ:aO) (A:Around) (env:Env) (μ:Mu) (s:Shared) (v u:Value) (Q:Unit->Shared->Prop) (E:Value->Shared->Prop),C.Ok->aX C lv A μ σ s->aM A N env μ ρ s.heap->af μ s.heap o v->af μ s.heap a u->
  (∀ μ' s',aS C lv A N env μ s ρ σ' μ' s'->Q () s')->wpAny (model C.prog C.w) A (setAttr v name u) Q E s
end
section
variable {C:Cx} {lv:Lv} {N:aF} {ρ ρ₁ ρ₂ ρ₃ ρ' ρ₀:aO} {σ σ₁ σ₂ σ₃ σ₄ σ':aC} {o:Out} {A:Around} {env:Env} {μ μ':Mu} {s s':Shared} {a b:AV} {i:Nat} {c:Addr} {xs:List (Str×AV)} {name:Str} {pos apos:Pos} {e:Expr} {as:List AV} {ks:List (Str×AV)} {m:Nat}
theorem b7:qC C lv N [] [] ρ σ [] [] ρ σ:=fun A env μ s pos f Q E ok G F hQ=>PySem.evalArgs_none (hQ [] [] μ s (aS.refl G F) trivial trivial)
theorem aZ {es:List Expr} (h:jQ C lv N (e :: es) ρ σ as ρ₁ σ₁) (hn:autoParam (cA e=true) aR):qC C lv N (e :: es) [] ρ σ as [] ρ₁ σ₁:=by
 intro A env μ s pos f Q E ok G F hQ
 have h':=h A env μ s pos (fun vs s'=>Q ⟨vs,[]⟩ s') E ok G F fun vs μ1 s1 P1 r=>hQ vs [] μ1 s1 P1 r trivial
 rw [a7 hn] at h' ⊢
 exact FS h'
inductive vY:PyData->List PyData->Prop
 | list {ds}:vY (.list ds) ds
 | tuple {ds}:vY (.tuple ds) ds
theorem jB {d:PyData} {ds:List PyData} (sd:vY d ds) (hz:ds.length<=FI) {v:Value} {Q:List Value->Shared->Prop} {E:Value->Shared->Prop} (G:aX C lv A μ σ s) (F:aM A N env μ ρ s.heap) (r:af μ s.heap (.dat d) v)
  (hQ:∀ vs s',aS C lv A N env μ s ρ σ μ s'->ay μ s'.heap (ds.map .dat) vs->Q vs s'):wpAny (model C.prog C.w) A (notIterableAtAll v) (fun b s₁=>b=false/\wpAny (model C.prog C.w) A (Lr v) Q E s₁) E s:=by
 obtain ⟨as,r⟩:=r
 cases sd with
 | list=>cases r using RL with
  | @list l ob items n as ho hc hd hr=>
   have' hT:s.TypeIs (.ref l) "list" := ⟨_,Ez _ ho,hc⟩;have' hlen:items.size=ds.length:=a9 hr;refine ED (JF hT PySem.F.slot_list_iter.lookup (EI ⟨rfl,?_⟩));refine ao (Jl l (.inl rfl) (Ez _ ho) hc hd (fun h' hk hl=>?_) (by rw [hlen];exact hz))
   have k:aL A0 NoW s {s with heap:=h'}:=ab (tk:=s.toks) hl hk;exact hQ _ _ (aS.grow G F k) (jO (PyProof.Rows.ReadsAll.keeps (cU k) hr))
 | tuple=>cases r using RT with
  | @tuple l ob items n as ho hc hd hr=>
   have' hT:s.TypeIs (.ref l) "tuple" := ⟨_,Ez _ ho,hc⟩;have' hlen:items.size=ds.length:=a9 hr;refine ED (JF hT PySem.F.slot_tuple_iter.lookup (EI ⟨rfl,?_⟩));refine ao (Jl l (.inr rfl) (Ez _ ho) hc hd (fun h' hk hl=>?_) (by rw [hlen];exact hz))
   have k:aL A0 NoW s {s with heap:=h'}:=ab (tk:=s.toks) hl hk;exact hQ _ _ (aS.grow G F k) (jO (PyProof.Rows.ReadsAll.keeps (cU k) hr))
theorem uw {p:Pos} {d:PyData} {ds:List PyData} (h:aG C lv N e ρ σ (.dat d) ρ₁ σ₁) (sd:vY d ds) (hz:ds.length<=FI):qC C lv N [.Starred e p] [] ρ σ (ds.map .dat) [] ρ₁ σ₁:=by
 intro A env μ s pos f Q E ok G F hQ
 have' e1:backTo pos (Fy [.Starred e p] env)=[(true,do let v <- eval e env;HT pos;pure v)]:=rfl
 rw [e1]
 unfold Ka
 refine ED (ED (h A env μ s _ _ ok G F fun v μ1 s1 P1 r=>ED (FT (EI (ED (EI (E1 ?_)))))))
 rw [if_pos (by rfl)]
 refine ED (EI (a:=[]) (ED (ED (Es (jB sd hz P1.good P1.fr r (Q:=fun vs s'=>Q ⟨vs,[]⟩ s') fun vs s2 P2 rv=>hQ vs [] μ1 s2 (P1.trans P2) rv trivial) (fun bb s2 z=>?_) fun zz zz z=>z))))
 obtain ⟨rfl,z⟩:=z
 rw [if_neg (by decide)]
 exact E1 (Es z (fun vs s3 w=>EI w) fun zz zz z=>z)
theorem r9 {x:Expr} {p:Pos} {d:PyData} {ds:List PyData} (h0:aG C lv N x ρ σ a ρ₁ σ₁) (h:aG C lv N e ρ₁ σ₁ (.dat d) ρ₂ σ₂) (sd:vY d ds) (hz:ds.length<=FI) (hn:autoParam (cA x=true) aR):qC C lv N [x,.Starred e p] [] ρ σ (a :: ds.map .dat) [] ρ₂ σ₂:=by
 intro A env μ s pos f Q E ok G F hQ
 rw [a7 hn]
 have' e1:backTo pos ((false,eval x env) :: Fy [.Starred e p] env)=[(false,eval x env),(true,do let v <- eval e env;HT pos;pure v)]:=rfl
 rw [e1]
 refine FS (FW (h0 A env μ s _ _ ok G F fun u μ1 s1 P1 ru=>?_))
 unfold spliced
 refine ED (ED (h A env μ1 s1 _ _ ok P1.good P1.fr fun v μ2 s2 P2 r=>ED (FT (EI ?_))))
 rw [if_pos rfl]
 refine ED (Es (jB sd hz P2.good P2.fr r (Q:=fun vs s'=>Q ⟨u :: vs,[]⟩ s') fun vs s3 P3 rv=>hQ (u :: vs) [] μ2 s3 (P1.trans (P2.trans P3)) ⟨(P2.trans P3).val P1.good P1.fr ru,rv⟩ trivial) (fun bb s3 z=>?_) fun zz zz z=>z)
 obtain ⟨rfl,z⟩:=z
 rw [if_neg (by decide)]
 refine ED (Es z (fun vs s4 w=>ED (E1 (Fs (EI ?_)))) fun zz zz z=>z)
 rw [FH];exact w
theorem zF {x y:Expr} {k:Str} {p:Pos} (h0:aG C lv N x ρ σ a ρ₁ σ₁) (h:aG C lv N y ρ₁ σ₁ b ρ₂ σ₂) (hn:autoParam (cA x=true) aR):qC C lv N [x] [⟨some k,y,p⟩] ρ σ [a] [(k,b)] ρ₂ σ₂:=by
 intro A env μ s pos f Q E ok G F hQ
 rw [a7 hn]
 have' e1:backTo pos ((false,eval x env) :: Fy [] env)=[(false,eval x env)]:=rfl
 rw [e1]
 unfold Ka
 refine ED (FW (h0 A env μ s _ _ ok G F fun u μ1 s1 P1 ru=>Fs ?_))
 refine ED (EI (E1 ?_))
 rw [if_pos (by rfl)]
 refine ED ?_
 show wpAny _ _ (evalAll [do let v <- eval y env;HT pos;pure v]) _ _ _
 unfold evalAll
 refine ED (ED (h A env μ1 s1 _ _ ok P1.good P1.fr fun v μ2 s2 P2 rv=>ED (FT (EI ?_))))
 refine ED (E1 ?_)
 unfold evalAll
 refine EI (EI (ED (EI (EI ?_))))
 exact hQ [u] [(k,v)] μ2 s2 (P1.trans P2) ⟨P2.val P1.good P1.fr ru,trivial⟩ ⟨⟨rfl,rv⟩,trivial⟩
theorem ij {K:Frag} {f:Value} {first:List Value} {args:List (Bool×Sem Value)} {kws:List (Option Str×Sem Value)} {M:Model} {Q:Value->Shared->Prop} {E:Value->Shared->Prop} (hk:keepIn K f=true)
  (h:wpAny M A (Ka f true args kws) (fun a s₁=>K.In s₁.heap/\wpAny M A (call f (first++a.pos) a.kw) Q E s₁) E s):wpAny M A (HO pos f first args kws) Q E s:=by
 unfold HO
 refine ED (E1 (Es h (fun a s₁ h₁=>ED (FT ?_)) fun zz zz x=>x))
 obtain ⟨k,hk',L⟩:=looks_keep (M:=M) hk h₁.1
 refine ED (L.here ?_)
 have tail:∀ {t:Sem Value},wpAny M A t Q E s₁->wpAny M A (t >>= fun r=>Hx [r] point >>= fun zz=>pure r) Q E s₁:=
  fun ht=>ED (Es ht (fun r s₂ hr=>ED (E1 (Ll (EI hr)))) fun zz zz x=>x)
 have marked (mk:Value):wpAny M A (callMarked mk f (first++a.pos) a.kw) Q E s₁:=by unfold callMarked;exact Calls.wpAny_keep h₁.2
 generalize (args.any (·.1) || kws.any (·.1.isNone))=star
 rcases hk' with rfl | rfl<;>cases star<;>dsimp only
 ·split<;>first | exact tail h₁.2 | exact tail (marked _)
 ·exact tail (marked _)
 ·exact tail h₁.2
 ·exact tail (KW h₁.2)
structure yO (C:Cx) (σ:aC) (a:AV) (name:Str) (f:Addr):Prop where
 get:∀ (A:Around) (μ:Mu) (s:Shared) (v:Value) (pl:Sem Bool) (Q:Value×List Value->Shared->Prop) (E:Value->Shared->Prop),C.K.In s.heap->Sim C μ σ s.heap->af μ s.heap a v->Q (.ref f,[v]) s->wpAny (model C.prog C.w) A (IW v name pl) Q E s
theorem bB {f:Addr} (hx:σ[i]? = some (.inst c xs)) (hc:cE C.K c) (hf:findIn C.K (.ref c) name=some (some (.ref f))) (ht:typeIn C.K (.ref f)=some (.type "function")) (hl:xs.lookup name=none):yO C σ (.ref i) name f:=
 ⟨fun A μ s v pl Q E X S r h=>by
  obtain ⟨p,dx,es,n,rfl,hp,e,ne,hd,hr,I⟩:=S.inst hx r;exact method_fn X I hc.ga hc.ge hf ht (by show (lookIn name (dictOf es n)).map _=_;rw [lookIn_dict,lB hr hl];rfl) h⟩
theorem bC {ob:Expr} {es:List Expr} {kws:List IH} {f:Addr} (ho:aG C lv N ob ρ σ a ρ₁ σ₁) (hm:yO C σ₁ a name f) (hk:keepIn C.K (.ref f)=true) (hv:qC C lv N es kws ρ₁ σ₁ as ks ρ₂ σ₂) (hc:aP C m lv.fz (.ref f) (a :: as) ks σ₂ b σ') (hmn:autoParam (m<=lv.n) aD) (hq:autoParam (lv.q=true) aR)
  (hw:∀ env,∃ pl,eval (.Call (.Attribute ob name apos) es kws pos) env=(do
   let ov <- eval ob env
   HT apos.atName
   let (f,first) <- Hx [ov] (IW ov name pl)
   HO pos f first (backTo pos (Fy es env)) (HE pos (GH kws env))):=by intro _;exact ⟨_,rfl⟩):aG C lv N (.Call (.Attribute ob name apos) es kws pos) ρ σ b ρ₂ σ':=by
 intro A env μ s Q E ok G F hQ
 obtain ⟨pl,hw⟩:=hw env
 refine LA (ho A env μ s _ _ ok G F fun v μ1 s1 P1 r=>hm.get _ μ1 s1 v _ _ _ (P1.good.inK ok) P1.good.sim r ?_) hw
 dsimp only
 refine ij hk (hv A env μ1 s1 pos _ _ _ ok P1.good P1.fr fun vs kvs μ2 s2 P2 rv rk=>⟨P2.good.inK ok,?_⟩)
 exact i0 hc hmn hq ok P2.good P2.fr ⟨P2.val P1.good P1.fr r,rv⟩ rk fun v μ3 s3 P3 rv=>hQ v μ3 s3 (P1.trans (P2.trans P3)) rv
theorem ah {x:Str} {np pos:Pos} {es:List Expr} {kws:List IH} {f:Addr} (hf:aG C lv N (.Name x np) ρ σ (.con (.ref f)) ρ₁ σ₁) (hk:keepIn C.K (.ref f)=true) (hv:qC C lv N es kws ρ₁ σ₁ as ks ρ₂ σ₂) (hc:aP C m lv.fz (.ref f) as ks σ₂ a σ') (hm:autoParam (m<=lv.n) aD) (hq:autoParam (lv.q=true) aR)
  (hw:autoParam (∀ env,eval (.Call (.Name x np) es kws pos) env=(do
   let f <- eval (.Name x np) env
   HO pos f [] (backTo pos (Fy es env)) (HE pos (GH kws env)))) aV):aG C lv N (.Call (.Name x np) es kws pos) ρ σ a ρ₂ σ':=by
 intro A env μ s Q E ok G F hQ
 rw [hw]
 refine ED (hf A env μ s _ _ ok G F fun v μ1 s1 P1 hv1=>?_)
 obtain rfl:=hv1
 refine ij hk (hv A env μ1 s1 pos _ _ _ ok P1.good P1.fr fun vs kvs μ2 s2 P2 rv rk=>⟨P2.good.inK ok,?_⟩)
 exact i0 hc hm hq ok P2.good P2.fr rv rk fun v μ3 s3 P3 rv=>hQ v μ3 s3 (P1.trans (P2.trans P3)) rv
end
structure gI (K:Frag) (c:Addr):Prop where
 pg:K9 K c "" = true
 sa:findIn K (.ref c) "__setattr__" = some (some (.builtin "object.__setattr__"))
 po:plainOver K c=true
 cl:(clsIn K c).isSome=true
theorem gI.ga {K:Frag} {c:Addr} (h:gI K c):findIn K (.ref c) "__getattribute__" = some (some (.builtin "object.__getattribute__")):=by
 have:=h.pg;unfold K9 at this;simp only [Ea,beq_iff_eq] at this;exact this.1
theorem gI.ge {K:Frag} {c:Addr} (h:gI K c):findIn K (.ref c) "__getattr__" = some none:=by
 have:=h.pg;unfold K9 at this;simp only [Ea,beq_iff_eq] at this;exact this.2
structure lM (K:Frag) (c:Addr) (name:Str) (k:Nat):Prop where
 at_:∃ p:Addr,findIn K (.ref c) name=some (some (.ref p))/\JR K (.ref p) "__get__" = some (some (.builtin "member_descriptor.__get__"))/\Km K (.ref p)=some true/\slotIn K p c=some k/\typeIn K (.ref p)=some (.type "member_descriptor")
noncomputable def lP (xs:List (Option AV)) (k:Nat) (a:AV):List (Option AV):=(xs++FO (k+1 - xs.length) none).set k (some a)
theorem xw {μ:Mu} {h:Heap} {xs:List (Option AV)} {vs:List (Option Value)} {k:Nat} {a:AV} (r:cq μ h xs vs):xs[k]? = some (some a)->∃ v,vs[k]? = some (some v)/\af μ h a v:=by
 refine cq.ind (motive:=fun xs vs=>∀ k,xs[k]? = some (some a)->∃ v,vs[k]? = some (some v)/\af μ h a v) r (fun k e=>by cases e) (fun x v xs vs hv zz ih k e=>?_) k
 cases k with
 | zero=>
  cases e
  cases v with
  | none=>exact hv.elim
  | some v=>exact ⟨v,rfl,hv⟩
 | succ k=>exact ih k e
theorem wM {μ:Mu} {h:Heap} {xs:List (Option AV)} {vs:List (Option Value)} (r:cq μ h xs vs):vs.length=xs.length:=cq.ind r rfl fun zz zz zz zz zz zz ih=>congrArg (· + 1) ih
theorem wi {μ:Mu} {h:Heap} (n:Nat) {xs:List (Option AV)} {vs:List (Option Value)} (r:cq μ h xs vs):cq μ h (xs++FO n none) (vs++FO n none):=by
 refine cq.ind r ?_ fun zz zz zz zz hv zz ih=>⟨hv,ih⟩
 rw [EZ,EZ]
 induction n with
 | zero=>exact trivial
 | succ n ih=>exact ⟨trivial,ih⟩
theorem vz {μ:Mu} {h:Heap} {a:AV} {v:Value} (rv:af μ h a v) {xs:List (Option AV)} {vs:List (Option Value)} (k:Nat) (r:cq μ h xs vs):cq μ h (xs.set k (some a)) (vs.set k (some v)):=by
 refine cq.ind (motive:=fun xs vs=>∀ k,cq μ h (xs.set k (some a)) (vs.set k (some v))) r (fun zz=>trivial) (fun x u xs vs hv r ih k=>?_) k
 cases k with
 | zero=>exact ⟨rv,r⟩
 | succ k=>exact ⟨hv,ih k⟩
section
variable {C:Cx} {lv:Lv} {N:aF} {ρ ρ₁ ρ₂ ρ₃ ρ' ρ₀:aO} {σ σ₁ σ₂ σ₃ σ₄ σ':aC} {o:Out} {A:Around} {env:Env} {μ μ':Mu} {s s':Shared} {a b:AV} {i:Nat} {c:Addr} {xs:List (Str×AV)} {name:Str} {pos apos:Pos} {e:Expr} {as:List AV} {ks:List (Str×AV)} {m:Nat} {ys:List (Option AV)} {k:Nat}
theorem cI (hx:σ[i]? = some (.inst c xs)) (hc:cE C.K c) (hf:findIn C.K (.ref c) name=some none) (hl:xs.lookup name=some a) (ha:autoParam (hG a=true) aR):bv C lv σ (.ref i) name a:=
 fun N ρ A env μ s v expr Q E ok G F r hQ=>yA ok G F hx hc hf hl ha r hQ
theorem bj (hx:σ[i]? = some (.inst c xs)) (hz:i∉lv.fz) (hc:cE C.K c) (hf:findIn C.K (.ref c) name=some none) (hn:xs.length<1000):im C lv σ (.ref i) name a (σ.set i (.inst c (lg name a xs))):=
 fun N ρ A env μ s v u Q E ok G F r ru hQ=>xT ok G F hx hz hc hf hn r ru fun s' P=>hQ μ s' P
theorem Sim.slot (S:Sim C μ σ s.heap) (hx:σ[i]? = some (.slot c ys)) {v:Value} (r:af μ s.heap (.ref i) v) :
  ∃ p dx vs,v=.ref p.1/\μ.objs[i]? = some p/\p.2=[p.1,dx]/\p.1≠dx/\s.heap.get? dx=some emptyDict/\cq μ s.heap ys vs.toList/\W.InstAt s.heap p.1 {cls:=.ref c,dict:=some dx,data:=.plain,slots:=vs} c (some emptyDict):=by
 obtain ⟨p,hp,rfl⟩:=r
 obtain ⟨vs,dx,e,ne,h1,h2,h3⟩:=S.rep i p _ hp hx
 exact ⟨p,dx,vs,rfl,hp,e,ne,h2,h3,⟨h1,rfl,rfl,h2⟩⟩
theorem dD (hx:σ[i]? = some (.slot c ys)) (hc:gI C.K c) (hs:lM C.K c name k) (hl:ys[k]? = some (some a)) (ha:autoParam (hG a=true) aR):bv C lv σ (.ref i) name a:=by
 intro N ρ A env μ s v expr Q E ok G F r hQ
 obtain ⟨p,dx,vs,rfl,hp,e,ne,hd,hr,I⟩:=G.sim.slot hx r
 obtain ⟨u,hu,ru⟩:=xw hr hl
 obtain ⟨q,h1,h2,h3,h4,_⟩:=hs.at_
 have X:=G.inK ok
 refine get_bind X I hc.ga (findObj_data hc.cl h1 h2 h3) hc.ge (Fi (slot_get (s:={s with toks:=s.toks+1}) X I h4 (v:=u) (by rw [<- Ii];show (vs.toList[k]?).join=_;rw [hu];rfl) ?_))
 show wpAny _ _ (Lf u) _ _ _
 rw [KM (jY ru ha)]
 exact EI (hQ u μ _ (aS.grow G F (ae _)) ru)
theorem xV {f p:Addr} {rest:List Value} (hx:σ[i]? = some (.inst c xs)) (hc:cE C.K c) (h1:findIn C.K (.ref c) name=some (some (.ref p))) (h2:JR C.K (.ref p) "__get__" = some (some (.builtin "property.__get__"))) (h3:Km C.K (.ref p)=some true)
  (h4:recIn C.K p "property" = some (.ref f :: rest)) (hcall:aP C m lv.fz (.ref f) [.ref i] [] σ a σ') (hm:m<lv.n) (hq:lv.q=true) (ha:autoParam (hG a=true) aR) :
  ∀ (N:aF) (ρ:aO) (A:Around) (env:Env) (μ:Mu) (s:Shared) (v:Value) (expr:Bool) (Q:Value->Shared->Prop) (E:Value->Shared->Prop),C.Ok->aX C lv A μ σ s->aM A N env μ ρ s.heap->af μ s.heap (.ref i) v->
  (∀ u μ' s',aS C lv A N env μ s ρ σ' μ' s'->af μ' s'.heap a u->Q u s')->wpAny (model C.prog C.w) A (JP v name expr) Q E s:=by
 intro N ρ A env μ s v expr Q E ok G F r hQ
 obtain ⟨q,dx,es,n,rfl,hp,e,ne,hd,hr,I⟩:=G.sim.inst hx r
 have X:=G.inK ok
 have hcd:(clsIn C.K c).isSome=true:=by obtain ⟨cd,h,_⟩:=Lw hc.hd;rw [h];rfl
 refine get_bind X I hc.ga (findObj_data hcd h1 h2 h3) hc.ge (Fi (prop_get (s:={s with toks:=s.toks+1}) X h4 ?_))
 have' k1:aL A0 NoW s {s with toks:=s.toks+1}:=ae _
 have P0:=aS.grow G F k1
 have G':aX C ⟨true,m,lv.fz⟩ A.in1 μ σ {s with toks:=s.toks+1}:=P0.good.around (fun zz=>G.quiet hq) rfl (by have:=G.room;dsimp only;omega) (by have:=G.units;dsimp only;omega) ⟨G.frs.all⟩
 refine hcall A.in1 μ _ [.ref q.1] [] _ ok G' ⟨r,trivial⟩ trivial fun u μ' s' G2 x2 k2 ru=>?_
 show wpAny _ _ (Lf u) _ _ _
 rw [KM (jY ru ha)]
 refine EI (hQ u μ' s' (P0.trans ?_) ru)
 have G3:aX C ⟨true,m,lv.fz⟩ A μ' σ' s':=G2.around (fun zz=>G.quiet hq) rfl (by have:=G.room;dsimp only;omega) (by have:=G.units;dsimp only;omega) ⟨G2.frs.all⟩
 exact aS.call rfl P0.good P0.fr G3 x2 (k2.frames fun b hb=>.inl hb)
theorem gY (hx:σ[i]? = some (.slot c ys)) (hz:i∉lv.fz) (hc:gI C.K c) (hs:lM C.K c name k) (hk:k<1000):im C lv σ (.ref i) name a (σ.set i (.slot c (lP ys k a))):=by
 intro N ρ A env μ s v u Q E ok G F r ru hQ
 obtain ⟨p,dx,vs,rfl,hp,e,ne,hd,hr,I⟩:=G.sim.slot hx r
 obtain ⟨q,h1,h2,h3,h4,h5⟩:=hs.at_
 have X:=G.inK ok
 refine set_plain X I hc.sa ?_
 have' X':C.K.In ({s with toks:=s.toks+1}:Shared).heap:=X
 refine osa_descr (s:={s with toks:=s.toks+1}) (T := "member_descriptor") (i := "member_descriptor.__set__") KF.slot_mset X' I hc.po (p:=q) (by unfold takerIn;rw [h1];show (Km C.K (.ref q)).map _=_;rw [h3];rfl) h5 ?_
 obtain ⟨nn,tn,owner,behind,tb,d,sl,cd,ho,hcd,hm,hb,rfl⟩:=slot_of X h4
 obtain ⟨hh,g,dr,t,os⟩:=s
 have L0:=I.type (M:=model C.prog C.w)
 have L1:=looks_mroIn (M:=model C.prog C.w) X hm
 have L2:Looks (model C.prog C.w) hh (Ep.Slots.slotNamesOf (.ref c)) cd.slotNames:=(Lk X hcd).andThen .now
 have hxx:=I.at_
 dsimp only at ho hxx L0 L1
 have f0:=Kb (M:=model C.prog C.w) ho 0 (v:=.str nn tn) rfl
 have f1:=Kb (M:=model C.prog C.w) ho 1 (v:=owner) rfl
 have f3:=Kb (M:=model C.prog C.w) ho 3 (v:=.builtin "proto.slot#set") rfl
 have f4:=Kb (M:=model C.prog C.w) ho 4 (v:=.int behind tb) rfl
 refine GX KF.slot_mset.plain KF.entry_mset (KF.slot_mset.check _ _ _ _ _ _ _ _ ⟨_,ho,rfl⟩ (KF.args_mset _ _ _) ?_)
 unfold Ep.«member_descriptor.__set__» Ep.Getset_descriptor.descrSet Ep.Getset_descriptor.descrStoreThrough Ep.Getset_descriptor.descrCheckInstance Ep.Getset_descriptor.descrNameAndClass IL
 have f5:Looks (model C.prog C.w) hh (Ep.Getset_descriptor.descrItself (.ref q)) [.ref q]:=((I7 (part:=none) ho).andThen .now).andThen (Fd (by kernel_rfl))
 repeat lk
 refine ⟨Code.quiet_builtin _ (by decide +kernel),Fg KF.entry_slotset ?_⟩
 unfold Ep.«proto.slot#set» Ep.Slots.target
 repeat lk
 rw [if_neg hb]
 refine EI (ED ?_)
 unfold setSlotAt
 dsimp only
 rw [if_neg (by rw [ER];omega)]
 refine wpAny_updatePart hxx (EI (hQ μ _ ?_))
 generalize hkk:cd.slotNames.length - 1 - behind.toNat=kk at *
 have' hmem:p∈μ.objs:=EN hp
 generalize hf:(fun o:Obj=>{o with slots:=(o.slots++KT (kk+1 - o.slots.size) none).setIfInBounds kk (some u)})=ff
 have K1:aL A (·∈p.2) ⟨hh,g,dr,t,os⟩ ⟨hh.update p.1 ff,g,dr,t+1,os⟩:=
  ⟨_,_,_,rfl,⟨Ec (Gj ..).symm,id⟩,fun b o hb eb=>.inl ((Ge _ _ _ _ (fun q=>hb (by rw [e,<- q];simp))).trans eb)⟩
 have hW:∀ b,b∈p.2\/FA A b->b∈μ.hid\/hh.objs.size<=b:=G.fw fun b hb=>.inl (G.sim.foot b (aj hmem hb))
 have' hg:(hh.update p.1 ff).get? p.1=some {cls:=.ref c,dict:=some dx,data:=.plain,slots:=(vs++KT (kk+1 - vs.size) none).setIfInBounds kk (some u)}:=by
  subst hf;exact FU _ hxx rfl
 refine aS.write G F hp hz K1 ⟨_,dx,e,ne,hg,(Ge _ _ _ _ (Ne.symm ne)).trans hd,?_⟩
 have hl:=wM hr
 rw [FQ] at hl
 have' z:=vz (af.mono (Ext.refl _ _) K1 hW ru) kk (wi (kk+1 - ys.length) (cq.mono (Ext.refl _ _) K1 hW hr))
 unfold lP
 rw [J0,IC,Array.toList_replicate,hl]
 exact z
theorem fJ {ob value:Expr} {tpos:Pos} {op:JY} {d:PyData} {as':AV} (ho:aG C lv N ob ρ σ a ρ₁ σ₁) (hg:bv C lv σ₁ a name b) (hv:aG C lv N value ρ₁ σ₁ as' ρ₂ σ₂) (hop:OpG C lv σ₂ b as' (d) (Lg op)) (hs:im C lv σ₂ a name (.dat d) σ₃) :
  aq C lv N (.AugAssign (.Attribute ob name tpos) op value pos) ρ σ .nxt ρ₂ σ₃:=by
 intro A env μ s Q E ok G F hQ
 refine wpAny_AugAssign_AttributeAny (ho A env μ s _ _ ok G F fun v μ1 s1 P1 r=>hg N ρ₁ A env μ1 s1 v true _ _ ok P1.good P1.fr r fun u μ2 s2 P2 ru=>hv A env μ2 s2 _ _ ok P2.good P2.fr fun w μ3 s3 P3 rw'=>?_)
 refine hop.run A μ3 u w s3 _ _ ok P3.good (P3.val P2.good P2.fr ru) rw' fun x s4 cs k rx=>?_
 have P4:=aS.grow P3.good P3.fr k
 have P24:=P2.trans (P3.trans P4)
 refine hs N ρ₂ A env μ3 s4 v x _ _ ok P4.good P4.fr (P24.val P1.good P1.fr r) ⟨cs,rx⟩ fun μ5 s5 P5=>hQ _ μ5 s5 (P1.trans (P24.trans P5)) rfl
theorem bW {ob:Expr} (ho:aG C lv N ob ρ σ a ρ₁ σ₁) (hg:bv C lv σ₁ a name b)
  (hw:autoParam (∀ env,eval (.Attribute ob name pos) env=(do
   let o <- eval ob env
   HT pos.atName
   let r <- Hx [o] (JP o name true)
   H1 ob o r
   pure r)) aV):aG C lv N (.Attribute ob name pos) ρ σ b ρ₁ σ₁:=fun A env μ s Q E ok G F hQ=>
 Attribute_any_ (ho A env μ s _ _ ok G F fun v μ1 s1 P1 r=>hg N ρ₁ A env μ1 s1 v true _ _ ok P1.good P1.fr r fun u μ2 s2 P2 ru=>hQ u μ2 s2 (P1.trans P2) ru) (hw env)
theorem b8 {ob:Expr} (ho:aG C lv N ob ρ σ b ρ₁ σ₁) (hs:im C lv σ₁ b name a σ₂):ci C lv N (.Attribute ob name pos) a ρ σ ρ₁ σ₂:=by
 intro A env μ s u Q E ok G F ru hQ
 rw [assign_Attribute]
 refine ED (E1 (ho A env μ s _ _ ok G F fun v μ1 s1 P1 r=>?_))
 refine ED (FT (ED (E1 (hs N ρ₁ A env μ1 s1 v u _ _ ok P1.good P1.fr r (P1.val G F ru) fun μ2 s2 P2=>?_))))
 exact Jt (hQ μ2 s2 (P1.trans P2))
end
inductive pn (c:Addr):AO->Prop
 | inst:pn c (.inst c [])
 | slot:pn c (.slot c [])
theorem kE (a:Args):(Code.builtin "type.__call__" a).weight<=1:=by
 have' h1:(Code.builtin "type.__call__" a).frames=0:=by kernel_rfl
 have' h2:(Code.builtin "type.__call__" a).isGuard=false:=by kernel_rfl
 have' h3:(Code.builtin "type.__call__" a).isCaller=false:=by kernel_rfl
 unfold Code.weight
 rw [h1,h2,h3]
 cases (Code.builtin "type.__call__" a).isCreation<;>simp
theorem lR (a:Args):(Code.builtin "type.__call__" a).cUnits=1:=by kernel_rfl
theorem lc (a:Args):(Code.builtin "type.__call__" a).envs=[]:=by kernel_rfl
theorem gX (A:Around) (a:Args):(A.under (.builtin "type.__call__" a)).handled=A.handled/\(A.under (.builtin "type.__call__" a)).frames=A.frames/\(A.under (.builtin "type.__call__" a)).depth<=A.depth+1/\(A.under (.builtin "type.__call__" a)).units=A.units+1:=
 ⟨rfl,by unfold Around.under;dsimp only;rw [lc];rfl,FJ (kE a) _,by unfold Around.under;dsimp only;rw [lR]⟩
section
variable {C:Cx} {lv:Lv} {N:aF} {ρ ρ₁ ρ₂ ρ₃ ρ' ρ₀:aO} {σ σ₁ σ₂ σ₃ σ₄ σ':aC} {o:Out} {A:Around} {env:Env} {μ μ':Mu} {s s':Shared} {a b:AV} {i:Nat} {c:Addr} {name:Str} {e:Expr} {as:List AV} {ks:List (Str×AV)} {m:Nat} {fz:List Nat} {ob:AO}
theorem pn.rep (hf:pn c ob) {h:Heap} {x dx:Addr} (ne:x≠dx) (h1:h.get? x=some (Gs c dx)) (h2:h.get? dx=some emptyDict):ek C μ h (x,[x,dx]) ob:=by
 cases hf with
 | inst=>exact ⟨dx,[],0,rfl,ne,h1,h2,trivial⟩
 | slot=>exact ⟨#[],dx,rfl,ne,h1,h2,trivial⟩
theorem j7 {fI:Addr} (hm:makesIn C.K c=true) (hi:findIn C.K (.ref c) "__init__" = some (some (.ref fI))) (hf:typeIn C.K (.ref fI)=some (.type "function")) (hfr:pn c ob)
  (hc:aP C m fz (.ref fI) (.ref σ.length :: as) ks (σ++[ob]) (.dat .none) σ'):aP C (m+1) fz (.ref c) as ks σ (.ref σ.length) σ':=by
 intro A μ s vs kvs R ok G rv rk hR
 have X:=G.inK ok
 obtain ⟨hh,g,d,t,os⟩:=s
 refine make_core (makes_of X hm) (IA X hi) (fun self=>bind_fn X self hf) (.inl rfl) ?_
 obtain ⟨u1,u2,u3,u4⟩:=gX A ⟨.ref c :: vs,kvs⟩
 generalize A.under (.builtin "type.__call__" ⟨.ref c :: vs,kvs⟩)=A2 at *
 have k:aL A0 NoW ⟨hh,g,d,t,os⟩ ⟨(hh.push emptyDict).push (Gs c hh.objs.size),g,d,t,os⟩:=ab (s:=⟨hh,g,d,t,os⟩) (tk:=t) (by simp only [EU];exact Fl (Ej _)) fun b o e=>EM _ (EM _ e)
 have h1:((hh.push emptyDict).push (Gs c hh.objs.size)).get? (hh.objs.size+1)=some (Gs c hh.objs.size):=by
  have:=ES (hh.push emptyDict) (o:=Gs c hh.objs.size) rfl
  rwa [EU] at this
 have h2:((hh.push emptyDict).push (Gs c hh.objs.size)).get? hh.objs.size=some emptyDict:=EM _ (ES _ rfl)
 have' hfp:∀ b∈[hh.objs.size+1,hh.objs.size],hh.objs.size<=b/\b<((hh.push emptyDict).push (Gs c hh.objs.size)).objs.size:=by
  intro b hb
  rcases EV.mp hb with rfl | hb
  ·exact ⟨Ej _,Ed h1⟩
  ·rw [EJ.mp hb];exact ⟨EK _,Ed h2⟩
 obtain ⟨G1,x1⟩:=G.alloc (s':=⟨(hh.push emptyDict).push (Gs c hh.objs.size),g,d,t,os⟩) (a:=hh.objs.size+1) (o:=ob) k hfp (.head _) (hfr.rep (Ij _) h1 h2)
 have' hlen:=G.sim.len
 generalize hμ:μ.add (hh.objs.size+1) [hh.objs.size+1,hh.objs.size]=μ1 at *
 have ha:μ1.objs[σ.length]? = some (hh.objs.size+1,[hh.objs.size+1,hh.objs.size]):=by
  rw [<- hμ,<- hlen];exact EY
 have hroom:=G.room
 have hunits:=G.units
 dsimp only at hroom hunits
 have G2:aX C ⟨true,m,fz⟩ A2 μ1 (σ++[ob]) ⟨(hh.push emptyDict).push (Gs c hh.objs.size),g,d,t,os⟩:=G1.around (fun zz=>u1.trans (G.quiet rfl)) rfl (by dsimp only;omega) (by dsimp only;omega) ⟨by rw [u2];exact G1.frs.all⟩
 refine hc A2 μ1 _ (.ref (hh.objs.size+1) :: vs) kvs _ ok G2 ⟨⟨_,ha,rfl⟩,ay.mono x1 k noW rv⟩ (dE.mono x1 k noW rk) fun v μ' s' G3 x3 k3 r3=>?_
 obtain ⟨as',r3⟩:=r3
 cases r3
 refine ⟨rfl,hR _ μ' s' (G3.around (fun zz=>G.quiet rfl) rfl (by show A.depth+_+_<_;dsimp only;omega) (by show A.units+_+_<_;dsimp only;omega) ⟨by rw [<- u2];exact G3.frs.all⟩) (x1.trans x3 k.le) ?_ ⟨_,x3.get ha,rfl⟩⟩
 have k3':aL A (WC μ1) _ s':=k3.frames fun b hb=>.inl (by unfold FA at *;rw [<- u2];exact hb)
 refine (k.lift (A:=A) (W:=WC μ)).trans k3' fun b hb=>?_
 exact WC.ext x1 (by rw [<- hμ];rfl) hb
end
noncomputable def ev (xs:List (Int×AV)) (k:Int) (a:AV):List (Int×AV):=if xs.any (fun p=>p.1=k) then xs.map (fun p=>if p.1=k then (p.1,a) else p) else xs++[(k,a)]
noncomputable def gv (xs:List (Int×AV)) (k:Int):List (Int×AV):=xs.filter fun p=>decide (p.1≠k)
noncomputable def atA (xs:List (Int×AV)) (k:Int):Option AV:=(xs.find? fun p=>p.1=k).map (·.2)
section
variable {μ:Mu} {h:Heap}
section
variable {k:Int} {xs:List (Int×AV)} {kvs:List (Int×Value)}
theorem kJ (r:cF μ h xs kvs):match atA xs k with | some a=>∃ v,valueAt kvs k=some v/\af μ h a v | none=>valueAt kvs k=none:=by
 refine cF.ind r rfl fun k' a v xs kvs hv ih=>?_
 unfold atA valueAt at *
 rw [JE,JE]
 by_cases q:k'=k
 ·simp only [q,decide_true];exact ⟨v,rfl,hv⟩
 ·simp only [q,decide_false];exact ih
theorem fZ (r:cF μ h xs kvs):kvs.length=xs.length:=by
 refine cF.ind r rfl fun zz zz zz xs kvs zz ih=>?_
 rw [E0,E0,ih]
theorem wQ (r:cF μ h xs kvs):kvs.any (fun p=>p.1=k)=xs.any (fun p=>p.1=k):=by
 refine cF.ind r rfl fun zz zz zz xs kvs zz ih=>?_
 rw [IE,IE,ih]
theorem wz {a:AV} {v:Value} (hv:af μ h a v) (r:cF μ h xs kvs):cF μ h (xs.map (fun p=>if p.1=k then (p.1,a) else p)) (kvs.map (fun p=>if p.1=k then (p.1,v) else p)):=by
 refine cF.ind r trivial fun k' zz zz xs kvs hb ih=>?_
 rw [E9,E9]
 by_cases q:k'=k
 ·simp only [q,if_true];exact ⟨⟨rfl,hv⟩,q▸ih⟩
 ·simp only [q,if_false];exact ⟨⟨rfl,hb⟩,ih⟩
theorem wJ {ys:List (Int×AV)} {lws:List (Int×Value)} (r:cF μ h xs kvs) (r':cF μ h ys lws):cF μ h (xs++ys) (kvs++lws):=by
 refine cF.ind r r' fun k a v xs kvs hv ih=>?_
 exact ⟨⟨rfl,hv⟩,ih⟩
theorem n8 (r:cF μ h xs kvs):cF μ h (gv xs k) (without kvs k):=by
 refine cF.ind r trivial fun k' b u xs kvs hb ih=>?_
 unfold gv without at *
 rw [Ex,Ex]
 by_cases q:k'=k
 ·simp only [q,ne_eq,not_true_eq_false,decide_false];exact ih
 ·simp only [ne_eq,q,not_false_eq_true,decide_true,if_true];exact ⟨⟨rfl,hb⟩,ih⟩
end
theorem pW {k:Int} {a:AV} {v:Value} (hv:af μ h a v) {xs:List (Int×AV)} {kvs:List (Int×Value)} (r:cF μ h xs kvs):cF μ h (ev xs k a) (stored kvs k v):=by
 unfold ev stored
 rw [wQ r]
 split
 ·exact wz hv r
 ·exact wJ r ⟨⟨rfl,hv⟩,trivial⟩
end
section
variable {C:Cx} {lv:Lv} {N:aF} {ρ ρ₁ ρ₂ ρ₃ ρ' ρ₀:aO} {σ σ₁ σ₂ σ₃ σ₄ σ':aC} {o:Out} {A:Around} {env:Env} {μ μ':Mu} {s s':Shared} {a b:AV} {i l:Nat} {pos:Pos} {e:Expr} {xs:List (Int×AV)} {k:Int}
theorem aX.notSys (ok:C.Ok) (G:aX C lv A μ σ s) {b:Addr} (h:b∈μ.foot):(b==JX)=false:=by
 obtain ⟨o,ho⟩:=ok.sys
 refine beq_eq_false_iff_ne.mpr fun q=>?_
 have:=G.low b (G.sim.foot b h)
 rw [q,ho] at this;cases this
theorem aX.dict (ok:C.Ok) (G:aX C lv A μ σ s) (hx:σ[i]? = some (.dict xs)) {v:Value} (r:af μ s.heap (.ref i) v) :
  ∃ p kvs,v=.ref p.1/\μ.objs[i]? = some p/\p.2=[p.1]/\(p.1==JX)=false/\s.heap.DictOf (Gm C.prog C.w) p.1 kvs/\cF μ s.heap xs kvs:=by
 obtain ⟨p,hp,rfl⟩:=r
 obtain ⟨e,kvs,h1,h2⟩:=G.sim.rep i p _ hp hx
 exact ⟨p,kvs,rfl,hp,e,G.notSys ok (aj (EN hp) (by rw [e];exact .head _)),h1,h2⟩
theorem fq (hx:σ[i]? = some (.dict xs)):mG C σ (.ref i) "dict" := by
 rintro μ s v S ⟨p,hp,rfl⟩
 obtain ⟨e,kvs,h1,h2⟩:=S.rep i p _ hp hx
 refine ⟨h1.typeIs,fun b hb=>?_⟩
 cases hb
 obtain ⟨o,es,ep,ho,hc,_⟩:=h1
 exact ⟨o,ho,hc.2.1⟩
theorem gE {value slice:Expr} (hv:aG C lv N value ρ σ (.ref l) ρ₁ σ₁) (hi:aG C lv N slice ρ₁ σ₁ (.dat (.int k)) ρ₂ σ₂) (hx:σ₂[l]? = some (.dict xs)) (hd:atA xs k=some a)
  (hs:autoParam (∀ o i,Jj slice false o i=LX [o,i] (Kk o i)) aW):aG C lv N (.Subscript value slice pos) ρ σ a ρ₂ σ₂:=by
 intro A env μ s Q E ok G F hQ
 refine KL (hv A env μ s _ _ ok G F fun v μ1 s1 P1 r=>hi A env μ1 s1 _ _ ok P1.good P1.fr fun iv μ2 s2 P2 qq1=>?_)
 obtain ⟨bs,ri⟩:=qq1
 obtain ⟨p,kvs,rfl,hp,e,hsys,hdict,hr⟩:=P2.good.dict ok hx (P2.val P1.good P1.fr r)
 have h2:=kJ (k:=k) hr
 rw [hd] at h2
 obtain ⟨u,hu,ru⟩:=h2
 cases ri using RI with
 | int t=>exact LY hdict.typeIs slot_dict_getitem.lookup (wpAny_getItem_of (knd:=Gm C.prog C.w) (k:=k) (by simp [Gm,IX]) hdict.mapOf hu (hQ u μ2 _ (P1.trans (P2.trans (aS.grow P2.good P2.fr (ae _)))) ru)) (hs _ _)
theorem iS {value slice:Expr} (hv:aG C lv N value ρ σ (.ref l) ρ₁ σ₁) (hi:aG C lv N slice ρ₁ σ₁ (.dat (.int k)) ρ₂ σ₂) (hx:σ₂[l]? = some (.dict xs)) (hz:l∉lv.fz) (hlen:xs.length<=1000)
  (hs:autoParam (∀ iv v ov:Value,(match slice with | .Slice _ _ none _=>[iv,v,ov] | _=>[v,ov,iv])=[v,ov,iv]) aK):ci C lv N (.Subscript value slice pos) a ρ σ ρ₂ (σ₂.set l (.dict (ev xs k a))):=by
 intro A env μ s v Q E ok G F r hQ
 rw [K8]
 refine ED (E1 (hv A env μ s _ _ ok G F fun ov μ1 s1 P1 ro=>ED (E1 (hi A env μ1 s1 _ _ ok P1.good P1.fr fun iv μ2 s2 P2 ⟨bs,ri⟩=>ED (FT ?_)))))
 obtain ⟨p,kvs,rfl,hp,e1,hsys,hdict,hr⟩:=P2.good.dict ok hx (P2.val P1.good P1.fr ro)
 have' r2:=P2.val P1.good P1.fr (P1.val G F r)
 have hl:p.1∈p.2:=by rw [e1];exact .head _
 cases ri using RI with
 | int t=>
  refine ED (E1 (wpAny_setItem_pairs (knd:=Gm C.prog C.w) (k:=k) (by simp [Gm,IX]) hdict (fun h' hd' hsb=>Jt ?_) (by rw [fZ hr,ER];omega)))
  have k1:aL A (·∈p.2) s2 {s2 with heap:=h',toks:=s2.toks+1}:=⟨h',_,_,rfl,⟨Ec hsb.1.symm,id⟩,fun b o hb e=>.inl ((hsb.2 b fun q=>hb (q▸hl)).trans e)⟩
  have hW:∀ b,b∈p.2\/FA A b->b∈μ2.hid\/s2.heap.objs.size<=b:=P2.good.fw fun b hb=>.inl (P2.good.sim.foot b (aj (EN hp) hb))
  exact hQ μ2 _ (P1.trans (P2.trans (aS.write P2.good P2.fr hp hz k1 ⟨e1,_,hd',pW (r2.mono (Ext.refl _ _) k1 hW) (cF.mono (Ext.refl _ _) k1 hW hr)⟩)))
theorem sH (hx:σ[i]? = some (.dict xs)):dQ C lv σ (.builtin "dict.get") [.ref i,.dat (.int k)] ((atA xs k).getD (.dat .none)) σ:=by
 intro N ρ A env μ s vs Q E ok G F r hQ
 obtain ⟨u,v,rfl,ru,⟨as,rv⟩⟩:=r.e2
 obtain ⟨p,kvs,rfl,hp,e,hsys,hdict,hr⟩:=G.dict ok hx ru
 cases rv using RI with
 | int t=>
  have h2:=kJ (k:=k) hr;refine KN PySem.F.slot_dict_get hdict.typeIs PySem.F.entry_dict_get (PySem.F.args_dict_get_2 _ _) (meets_dict_get (Gm C.prog C.w) p.1 (k:=k) (by simp [Gm,IX]) hsys) ⟨_,hdict.mapOf,?_⟩
  have P:=aS.grow G F (ae (s:=s) (s.toks+1))
  cases ha:atA xs k with
  | some a=>
   rw [ha] at h2 hQ
   obtain ⟨u,hu,ru'⟩:=h2
   rw [hu]
   exact hQ u μ _ P ru'
  | none=>
   rw [ha] at h2 hQ
   rw [h2]
   exact hQ .none μ _ P ⟨[],.none⟩
theorem tq (hx:σ[i]? = some (.dict xs)):OpG C lv σ (.dat (.int k)) (.ref i) (.bool (atA xs k).isSome) (Ff .In):=by
 refine .mk ?_
 intro A μ u v s Q E ok G qq1 rv hQ
 obtain ⟨as,ru⟩:=qq1
 obtain ⟨p,kvs,rfl,hp,e,hsys,hdict,hr⟩:=G.dict ok hx rv
 cases ru using RI with
 | int t=>
  have h2:=kJ (k:=k) hr;have' e1:(valueAt kvs k).isSome=(atA xs k).isSome:=by
   cases ha:atA xs k with
   | some a=>rw [ha] at h2;obtain ⟨u,hu,_⟩:=h2;rw [hu];rfl
   | none=>rw [ha] at h2;rw [h2];rfl
  refine wpAny_in_of (knd:=Gm C.prog C.w) (k:=k) (by simp [Gm,IX]) hsys hdict.mapOf (hQ _ _ [] (ae _) ?_)
  rw [e1];exact .bool _
theorem mr:aG C lv N (.Dict [] [] pos) ρ σ (.ref σ.length) ρ (σ++[.dict []]):=by
 intro A env μ s Q E ok G F hQ
 refine wpAny_Dict_empty ?_
 have' k1:aL A0 NoW s {s with heap:=s.heap.push {cls:=.type "dict",data:=.dict #[]}}:=bD _ _
 have P:=aS.alloc (a:=s.heap.objs.size) (fp:=[s.heap.objs.size]) (o:=.dict []) G F k1 (fun b hb=>by rw [EJ.mp hb];exact ⟨EK _,by show _<(HY _ _).objs.size;rw [EU];exact E6 _⟩) (.head _) ⟨rfl,[],Heap.DictOf.new _,trivial⟩
 exact hQ _ _ _ P ⟨_,by show (μ.objs++[_])[σ.length]? = _;rw [<- G.sim.len];exact EY,rfl⟩
end
theorem lm {prog:Fq} {w:World} {A:Around} {s:Shared} {E:Value->Shared->Prop} {Q:List Value->Shared->Prop} (it:Addr) {T:String} {o:Obj} {items:Array Value} {n:Nat} (hT:T="list" \/ T="tuple") (ho:s.heap.get? it=some o) (hc:o.cls=.type T) (hd:o.data=.seq items n)
  (hQ:∀ h',(∀ b o',s.heap.get? b=some o'->h'.get? b=some o')->s.heap.objs.size<=h'.objs.size->Q items.toList {s with heap:=h'}) (hsz:items.size<=FI):wpAny (model prog w) A (Lr (.ref it)) Q E s:=
 ao (Jl it hT ho hc hd (fun h' hk hl=>hQ h' hk hl) hsz)
theorem lr (l:Addr) (o:Obj) (items:Array Value) (n:Nat) (hc:o.cls=.type "list") (hd:o.data=.seq items n) (hsz:items.size<=FI) :
  Meets (Ep.«tuple.__new__» ⟨[.type "tuple",.ref l],[]⟩)
   (fun zz R s=>s.heap.get? l=some o/\∀ h':Heap,(∀ b o',s.heap.get? b=some o'->h'.get? b=some o')->s.heap.objs.size<=h'.objs.size->R (.ok (.ret (.ref h'.objs.size))) {s with heap:=h'.push {cls:=.type "tuple",data:=.seq items}}):=
 .of_wp fun prog w A R s h=>by
  obtain ⟨hp,g,d,tk,os⟩:=s;obtain ⟨ht,h⟩:=h;have hsub:=sub_tuple_self;have hinit:=init_tuple_lookup;have hmh:=madeHere_tuple;have' hT:Shared.TypeIs ⟨hp,g,d,tk,os⟩ (.ref l) "list" := ⟨o,ht,hc⟩
  wp_walk using AutoSeq1.wpAny_loadPart' ht,I8 hT,lm (hsz:=hsz) l (.inl rfl) ht hc hd
  intro h' hk hl
  show wpAny _ _ (Ep.Tuple.tupleExact items.toList.toArray >>= fun v=>ret v) _ _ _
  unfold Ep.Tuple.tupleExact;refine ED (G8 ?_ (by show items.toList.toArray.size<=FI;simpa using hsz))
  refine EI ⟨_,rfl,?_⟩;have' e:items.toList.toArray=items:=by simp
  rw [e]
  exact h h' hk hl
section
variable {C:Cx} {lv:Lv} {N:aF} {ρ ρ₁ ρ₂ ρ₃ ρ' ρ₀:aO} {σ σ₁ σ₂ σ₃ σ₄ σ':aC} {o:Out} {A:Around} {env:Env} {μ μ':Mu} {s s':Shared} {a b:AV} {i l:Nat} {pos np:Pos} {e:Expr} {xs:List AV} {k:Int}
theorem aX.list (G:aX C lv A μ σ s) (hx:σ[i]? = some (.list xs)) {v:Value} (r:af μ s.heap (.ref i) v):∃ p vs n,v=.ref p.1/\μ.objs[i]? = some p/\p.2=[p.1]/\s.heap.get? p.1=some {cls:=.type "list",dict:=none,data:=.seq vs n,slots:=#[]}/\ay μ s.heap xs vs.toList/\vs.size=xs.length:=by
 obtain ⟨p,hp,rfl⟩:=r
 obtain ⟨e,vs,⟨n,h1⟩,h2⟩:=G.sim.rep i p _ hp hx
 exact ⟨p,vs,n,rfl,hp,e,h1,h2,bP h2⟩
theorem nR (f:Array Value->Array Value) (its:Array Value) (n:Nat):∃ n',FB f {cls:=.type "list",data:=.seq its n}={cls:=.type "list",data:=.seq (f its) n'}:=by
 simp only [FB]
 exact ⟨_,rfl⟩
theorem jw {N:aF} {ρ:aO} {f:Array Value->Array Value} {ys:List AV} {p:Addr×List Addr} {vs:Array Value} {n:Nat} {tk:Nat} (G:aX C lv A μ σ s) (F:aM A N env μ ρ s.heap) (hp:μ.objs[i]? = some p) (e:p.2=[p.1]) (hz:i∉lv.fz) (h1:s.heap.get? p.1=some {cls:=.type "list",dict:=none,data:=.seq vs n,slots:=#[]}) (hr:ay μ s.heap xs vs.toList)
  (hy:∀ {h:Heap},ay μ h xs vs.toList->ay μ h ys (f vs).toList):aS C lv A N env μ s ρ (σ.set i (.list ys)) μ {s with heap:=s.heap.update p.1 (FB f),toks:=tk}:=by
 have hl:p.1∈p.2:=by rw [e];exact .head _
 obtain ⟨n',e'⟩:=nR f vs n
 have hpl:(s.heap.update p.1 (FB f)).PlainList p.1 (f vs):=⟨n',by rw [FU _ h1 (by rw [e'];rfl),e']⟩
 have k:aL A (·∈p.2) s {s with heap:=s.heap.update p.1 (FB f),toks:=tk}:=⟨_,_,_,rfl,⟨Ec (Gj ..).symm,id⟩,fun b o hb eb=>.inl ((Ge _ _ _ _ (fun q=>hb (by rw [e,<- q];simp))).trans eb)⟩
 have' hW:∀ b,b∈p.2\/FA A b->b∈μ.hid\/s.heap.objs.size<=b:=G.fw fun b hb=>.inl (G.sim.foot b (aj (EN hp) hb))
 exact aS.write G F hp hz k ⟨e,_,hpl,hy (ay.mono (Ext.refl _ _) k hW hr)⟩
theorem vf (hx:σ[i]? = some (.list (xs++[a]))) (hz:i∉lv.fz) (hsz:xs.length<FI):dQ C lv σ (.builtin "list.pop") [.ref i] a (σ.set i (.list xs)):=by
 intro N ρ A env μ s vs Q E ok G F r hQ
 obtain ⟨u,rfl,ru⟩:=r.e1
 obtain ⟨p,ws,n,rfl,hp,e,h1,hr,hlen⟩:=G.list hx ru
 rw [EX,Ei] at hlen
 have hlast:ws[ws.size - 1]? = some (ws[xs.length]'(by omega)):=by rw [show ws.size - 1=xs.length by omega];simp [hlen]
 have' hv:af μ s.heap a (ws[xs.length]'(by omega)):=e8 hr xs.length _ a (by simp [hlen]) (by simp)
 refine J3 PySem.F.slot_list_pop ⟨_,h1,rfl⟩ PySem.F.entry_list_pop (PySem.F.args_list_pop_1 _) (MeetsSeq.list_pop_last p.1 ws n _ hlast (by rw [hlen];exact hsz)) ⟨h1,?_⟩
 have P:=jw (ys:=xs) (tk:=s.toks) G F hp e hz h1 hr (f:=fun xs=>xs.eraseIdxIfInBounds (ws.size - 1)) fun {h} r=>by
  have e1:(ws.eraseIdxIfInBounds (ws.size - 1)).toList=ws.toList.eraseIdx xs.length:=by rw [hlen];simp
  rw [e1]
  have:=kh xs.length r
  rwa [List.eraseIdx_append_of_length_le (EK _),GB,List.eraseIdx_zero,List.tail_cons,FH] at this
 exact hQ _ μ _ P (P.val G F hv)
theorem wD (hx:σ[i]? = some (.list xs)) (hz:i∉lv.fz) (hsz:xs.length<=FI):dQ C lv σ (.builtin "list.clear") [.ref i] (.dat .none) (σ.set i (.list [])):=by
 intro N ρ A env μ s vs Q E ok G F r hQ
 obtain ⟨u,rfl,ru⟩:=r.e1
 obtain ⟨p,ws,n,rfl,hp,e,h1,hr,hlen⟩:=G.list hx ru
 refine J3 PySem.F.slot_list_clear ⟨_,h1,rfl⟩ PySem.F.entry_list_clear (PySem.F.args_list_clear_1 _) (AutoSeq1.list_clear_list_0 p.1 ws n (by rw [hlen];exact hsz)) ⟨h1,?_⟩
 exact hQ _ μ _ (jw (ys:=[]) (tk:=s.toks) G F hp e hz h1 hr (f:=fun zz=>#[]) fun zz=>trivial) ⟨[],.none⟩
theorem wb {ds:List PyData} (hx:σ[i]? = some (.list (ds.map .dat))) (hsz:ds.length<=FI):dQ C lv σ (.type "tuple") [.ref i] (.dat (.tuple ds)) σ:=by
 intro N ρ A env μ s vs Q E ok G F r hQ
 obtain ⟨u,rfl,ru⟩:=r.e1
 obtain ⟨p,ws,n,rfl,hp,e,h1,hr,hlen⟩:=G.list hx ru
 rw [EF] at hlen
 obtain ⟨bs,ra⟩:=fR hr
 refine callType_new PySem.F.called_tuple (by decide) (PySem.F.typeCall_tuple_1 _) (PySem.F.newCall_tuple_1 _) (fun obj=>PySem.F.args_object_init_2 obj _) PySem.F.entry_tuple_new (lr p.1 _ ws n rfl rfl (by rw [hlen];exact hsz)) ⟨h1,fun h' hk hl=>⟨⟨_,ES _ rfl,rfl⟩,?_⟩⟩
 have k:aL A0 NoW s {s with heap:=h'.push {cls:=.type "tuple",data:=.seq ws}}:=ab (tk:=s.toks) (by rw [EU];exact Fl hl) fun b o e=>EM _ (hk b o e)
 exact hQ _ μ _ (aS.grow G F k) ⟨_,.tuple (Fc _ (ES _ rfl) fun hm=>absurd (G.lt _ hm) (E3.mpr hl)) rfl rfl (PyProof.Rows.ReadsAll.keeps (cU k) ra)⟩
theorem tj {e:Expr} (h:aG C lv N e ρ σ (.ref i) ρ₁ σ₁) (hx:σ₁[i]? = some (.list xs)) (hz:xs.length<=1000) (he:autoParam (∀ env,isTrue e env (eval e env)=(do let v <- eval e env;HT e.pos;Hx [v] (truthy v))) aI) :
  aY C lv N e ρ σ (!xs.isEmpty) ρ₁ σ₁:=fun A env μ s Q E ok G F hQ=>
 LV (h A env μ s _ _ ok G F fun v μ1 s1 P1 r=>by
  obtain ⟨p,ws,n,rfl,hp,e,h1,hr,hlen⟩:=P1.good.list hx r;refine Ji ⟨_,h1,rfl,n,rfl⟩ (by rw [hlen];omega) ?_
  have' e2:(!ws.isEmpty) = !xs.isEmpty:=by
   cases xs with
   | nil=>
    have:ws = #[]:=H3 hlen
    rw [this];rfl
   | cons x xs=>
    have:ws.isEmpty=false:=by
     rw [J4];intro q;rw [q] at hlen;simp at hlen
    rw [this];rfl
  rw [e2]
  exact hQ μ1 _ (P1.trans (aS.grow P1.good P1.fr (ae _)))) (he env)
theorem mj {value slice:Expr} (hv:aG C lv N value ρ σ (.ref l) ρ₁ σ₁) (hi:aG C lv N slice ρ₁ σ₁ (.dat (.int (-1))) ρ₂ σ₂) (hx:σ₂[l]? = some (.list (xs++[a]))) (hz:xs.length<1000)
  (hs:autoParam (∀ o i,Jj slice false o i=LX [o,i] (Kk o i)) aW):aG C lv N (.Subscript value slice pos) ρ σ a ρ₂ σ₂:=by
 intro A env μ s Q E ok G F hQ
 refine KL (hv A env μ s _ _ ok G F fun v μ1 s1 P1 r=>hi A env μ1 s1 _ _ ok P1.good P1.fr fun iv μ2 s2 P2 qq1=>?_)
 obtain ⟨bs,ri⟩:=qq1
 obtain ⟨p,ws,n,rfl,hp,e,h1,hr,hlen⟩:=P2.good.list hx (P2.val P1.good P1.fr r)
 rw [EX,Ei] at hlen
 cases ri using RI with
 | int t=>
  have hl:s2.heap.IsList p.1 ws:=⟨_,h1,rfl,n,rfl⟩;have hlast:ws[(((-1:Int)+ws.size)).toNat]? = some (ws[xs.length]'(by omega)):=by rw [show ((-1:Int)+ws.size).toNat=xs.length by omega];simp [hlen]
  have hv:af μ2 s2.heap a (ws[xs.length]'(by omega)):=e8 hr xs.length _ a (by simp [hlen]) (by simp)
  exact LY hl.typeIs Jk.lookup (wpAny_getItem_list_neg hl (by decide) (by omega) (by decide) hlast (hQ _ μ2 s2 (P1.trans P2) hv)) (hs _ _)
theorem aX.set (G:aX C lv A μ σ s) {ks:List Int} (hx:σ[i]? = some (.set ks)) {v:Value} (r:af μ s.heap (.ref i) v):∃ p,v=.ref p.1/\μ.objs[i]? = some p/\p.2=[p.1]/\s.heap.SetOf (Gm C.prog C.w) p.1 (fun k=>ks.contains k) ks.length:=by
 obtain ⟨p,hp,rfl⟩:=r
 obtain ⟨e,h1⟩:=G.sim.rep i p _ hp hx
 exact ⟨p,rfl,hp,e,h1⟩
theorem vV {ks:List Int} (hx:σ[i]? = some (.set ks)):mG C σ (.ref i) "set" := by
 rintro μ s v S ⟨p,hp,rfl⟩
 obtain ⟨e,h1⟩:=S.rep i p _ hp hx
 exact ⟨h1.typeIs,h1.noDict⟩
theorem jD {ks:List Int} (hx:σ[i]? = some (.set ks)):OpG C lv σ (.dat (.int k)) (.ref i) (.bool (ks.contains k)) (Ff .In):=by
 refine .mk ?_
 intro A μ u v s Q E ok G qq1 rv hQ
 obtain ⟨as,ru⟩:=qq1
 obtain ⟨p,rfl,hp,e,h1⟩:=G.set hx rv
 cases ru using RI with
 | int t=>exact wpAny_inSet_of (knd:=Gm C.prog C.w) (k:=k) (by simp [Gm,IX]) rfl h1 (hQ _ _ [] (ae _) (.bool _))
theorem A7 {ks:List Int} (hx:σ[i]? = some (.set ks)) (hz:i∉lv.fz) (hno:ks.contains k=false) (hsz:ks.length<=1000):dQ C lv σ (.builtin "set.add") [.ref i,.dat (.int k)] (.dat .none) (σ.set i (.set (ks++[k]))):=by
 intro N ρ A env μ s vs Q E ok G F r hQ
 obtain ⟨u,v,rfl,ru,⟨as,rv⟩⟩:=r.e2
 obtain ⟨p,rfl,hp,e,h1⟩:=G.set hx ru
 have hl:p.1∈p.2:=by rw [e];exact .head _
 cases rv using RI with
 | int t=>
  refine call_set_add (knd:=Gm C.prog C.w) (k:=k) (by simp [Gm,IX]) rfl h1 (by unfold scanBound;omega) fun h' hsb hS=>?_
  have' k1:aL A (·∈p.2) s {s with heap:=h',toks:=s.toks+1}:=⟨h',_,_,rfl,⟨Ec hsb.1.symm,id⟩,fun b o hb e=>.inl ((hsb.2 b fun q=>hb (q▸hl)).trans e)⟩
  refine hQ _ μ _ (aS.write G F hp hz k1 ⟨e,?_⟩) ⟨[],.none⟩
  rw [hno] at hS
  have' e1:(fun k'=>ks.contains k' || decide (k'=k))=fun k'=>(ks++[k]).contains k':=by
   funext k'
   rw [FY]
   simp
  rw [EX,Ei,<- e1]
  exact hS
theorem yT {x:Str} (hf:aG C lv N (.Name x np) ρ σ (.con (.type "set")) ρ σ):aG C lv N (.Call (.Name x np) [] [] pos) ρ σ (.ref σ.length) ρ (σ++[.set []]):=by
 intro A env μ s Q E ok G F hQ
 refine GL (hf A env μ s _ _ ok G F fun v μ1 s1 P1 hv=>?_)
 obtain rfl:=hv
 refine PySem.callWith_type rfl (PySem.evalArgs_none ?_)
 refine call_set_0 fun led=>?_
 have' k1:aL A0 NoW s1 {s1 with heap:=s1.heap.push {cls:=.type "set",dict:=none,data:=.set #[] 0 (.fresh 0 0 led)}}:=bD _ _
 have' hS:=(setObjOf_fresh (prog:=C.prog) (w:=C.w) (knd:=Gm C.prog C.w) led).setOf (h:=s1.heap.push {cls:=.type "set",dict:=none,data:=.set #[] 0 (.fresh 0 0 led)}) (a:=s1.heap.objs.size) (ES _ rfl) (by decide)
 have P:=aS.alloc (a:=s1.heap.objs.size) (fp:=[s1.heap.objs.size]) (o:=.set []) P1.good P1.fr k1 (fun b hb=>by rw [EJ.mp hb];exact ⟨EK _,by show _<(HY _ _).objs.size;rw [EU];exact E6 _⟩) (.head _) ⟨rfl,hS⟩
 exact hQ _ _ _ (P1.trans P) ⟨_,by show (μ1.objs++[_])[σ.length]? = _;rw [<- P1.good.sim.len];exact EY,rfl⟩
end
theorem sY:Slot "list_iterator" "__getattribute__" "object.__getattribute__" :=
 Slot.of (owner := "object") (n := "__getattribute__") (by rw [Gf,builtinLookup_eq_fast,];kernel_rfl) (by decide +kernel) (by decide +kernel) (by decide +kernel) (.inl (by decide +kernel)) (by rw [Gp,];kernel_rfl)
theorem pT:JA table "object.__getattribute__" = some Ep.«object.__getattribute__» := HC (by kernel_rfl)
theorem qo (a b:Value):argsOk "object.__getattribute__" ⟨[a,b],[]⟩:=by unfold argsOk;kernel_rfl
theorem z3:IM (.type "list_iterator") "__getattr__" = pure none:=by rw [Gf,builtinLookup_eq_fast,];kernel_rfl
theorem gB:typeOf (.builtin "list_iterator.__next__")=pure (.type "wrapper_descriptor"):=by show builtinType _=_;rw [Kt,];kernel_rfl
theorem oE:Slot "wrapper_descriptor" "__get__" "wrapper_descriptor.__get__" :=
 Slot.of (owner := "wrapper_descriptor") (n := "__get__") (by rw [Gf,builtinLookup_eq_fast,];kernel_rfl) (by decide +kernel) (by decide +kernel) (by decide +kernel) (.inl (by decide +kernel)) (by rw [Gp,];kernel_rfl)
theorem xH:IM (.type "wrapper_descriptor") "__set__" = pure none:=by rw [Gf,builtinLookup_eq_fast,];kernel_rfl
theorem x8:IM (.type "wrapper_descriptor") "__delete__" = pure none:=by rw [Gf,builtinLookup_eq_fast,];kernel_rfl
theorem wg:JA table "wrapper_descriptor.__get__" = some Ep.«wrapper_descriptor.__get__» := HC (by kernel_rfl)
theorem zL (a b c:Value):argsOk "wrapper_descriptor.__get__" ⟨[a,b,c],[]⟩:=by unfold argsOk;kernel_rfl
noncomputable abbrev gA (it:Addr):Obj:={cls:=.type "method-wrapper",data:=.fields #[.builtin "list_iterator.__next__",.ref it]}
section
variable {prog:Fq} {w:World} {A:Around} {E:Value->Shared->Prop} {h:Heap} {g:Array K7} {d:Drawn} {t:Nat} {os:OsState} {it l:Addr} {i:Nat} {R:Result->Shared->Prop}
theorem qK (hit:h.IsListIter it l i) (q:R (.ok (.ret (.ref h.objs.size))) ⟨h.push (gA it),g,d,t,os⟩) :
  GR (model prog w) A (.call (.builtin "wrapper_descriptor.__get__") ⟨[.builtin "list_iterator.__next__",.ref it,.type "list_iterator"],[]⟩) R ⟨h,g,d,t,os⟩:=by
 have hT:(⟨h,g,d,t,os⟩:Shared).TypeIs (.ref it) "list_iterator" := hit.typeIs
 refine GX oE.plain wg (oE.check _ _ _ _ _ _ _ _ (show (⟨h,g,d,t,os⟩:Shared).TypeIs (.builtin "list_iterator.__next__") "wrapper_descriptor" from gB) (zL _ _ _) ?_)
 unfold Ep.«wrapper_descriptor.__get__»
 repeat (any_goals (first | assumption | wp_step))
 have' e1:(".".intercalate ("list_iterator.__next__".cutAt '.').dropLast)="list_iterator" := by decide +kernel
 have e2:IT (.type "list_iterator") (.type "list_iterator")=pure true:=by rw [Gp,];kernel_rfl
 rw [e1,e2,]
 refine EI ?_
 rw [if_neg (by decide),]
 refine EI (ED ?_)
 exact G8 (EI q)
theorem qr {M:Model} {sl:Array (Option Value)} {fs:Array Value} (ho:h.get? it=some {cls:=.type "list_iterator",dict:=none,data:=.fields fs,slots:=sl}) :
  Looks M h (Ep.ObjectAttr.find (.ref it) (.type "list_iterator") "__next__") (.bind (.builtin "wrapper_descriptor.__get__") (.builtin "list_iterator.__next__")):=by
 have L0:Looks M h (typeOf (.builtin "list_iterator.__next__")) (.type "wrapper_descriptor"):=Fd gB
 have' L1:Looks M h (IM (.type "list_iterator") "__next__") (some (.builtin "list_iterator.__next__")):=Fd IN.lookup
 have' L2:Looks M h (Ep.ObjectAttr.getOf (some (.builtin "list_iterator.__next__"))) (some (.builtin "wrapper_descriptor.__get__")):=L0.andThen (Fd oE.lookup)
 have' S1:Looks M h (Gk (.builtin "list_iterator.__next__") "__set__") none:=L0.andThen (Fd xH)
 have' S2:Looks M h (Gk (.builtin "list_iterator.__next__") "__delete__") none:=L0.andThen (Fd x8)
 have L3:Looks M h (Ep.ObjectAttr.takesStores (.builtin "list_iterator.__next__")) false:=S1.andThen (show Looks M h (do let r <- Gk (.builtin "list_iterator.__next__") "__delete__";pure r.isSome) false from S2.andThen .now)
 have' L4:Looks M h (Ep.ObjectAttr.inOwnDict "__next__" (.ref it)) none:=by
  intro A Q E s k q;have ho':=k _ _ ho;obtain ⟨hh,g,d,t,os⟩:=s;dsimp only at ho'
  unfold Ep.ObjectAttr.inOwnDict Ep.ObjectAttr.ownDict
  repeat (first | with_reducible refine ED ?_ | with_reducible refine nd_bind ?_ | k_node)
  exact q
 refine L1.andThen (L2.andThen ((show Looks M h (Ep.ObjectAttr.dataDescriptor? (some (.builtin "list_iterator.__next__")) (some (.builtin "wrapper_descriptor.__get__"))) none from L3.andThen .now).andThen ?_))
 refine L4.andThen ?_
 exact (show Looks M h (Ep.ObjectAttr.copiedAttributeGuard "__next__" (.ref it)) () from .now).andThen (Looks.tag .now)
theorem oA {expr:Bool} {Q:Value->Shared->Prop} (hit:h.IsListIter it l i) (hd:∀ o,h.get? it=some o->o.dict=none) (q:Q (.ref h.objs.size) ⟨h.push (gA it),g,d,t+1,os⟩) :
  wpAny (model prog w) A (JP (.ref it) "__next__" expr) Q E ⟨h,g,d,t,os⟩:=by
 have hT:∀ tk',(⟨h,g,d,tk',os⟩:Shared).TypeIs (.ref it) "list_iterator" := fun zz=>hit.typeIs
 have f3:=sY.lookup
 have' f4:=sY.bind (.ref it)
 have f5:=z3
 have f6:=IN.lookup
 have f7:=oE.lookup
 have f8:=xH
 have f9:=x8
 have hT5:∀ tk',(⟨h,g,d,tk',os⟩:Shared).TypeIs (.builtin "list_iterator.__next__") "wrapper_descriptor" := fun zz=>gB
 obtain ⟨o,ho,hc,hdat⟩:=id hit
 have hdn:=hd o ho
 obtain ⟨c,dct,dat,sl⟩:=o
 dsimp only at hc hdat hdn
 subst hc hdat hdn
 unfold JP getAttrBy
 repeat (any_goals (first | assumption | exact hT _ | exact hT5 _ | wp_step))
 rw [show (expr && onTheHeap (Value.builtin "object.__getattribute__"))=false by cases expr<;>rfl,if_neg (by decide),]
 unfold boundAndCalled
 rw [f4,]
 with_reducible refine ED (EI (Fi ?_))
 refine GX sY.plain pT (sY.check _ _ _ _ _ _ _ _ (hT _) (qo _ _) ?_)
 have bk:Jm "list_iterator.__next__" = some .slot:=by decide +kernel
 have L:=qr (M:=model prog w) ho
 have L0:Looks (model prog w) h (typeOf (.ref it)) (.type "list_iterator"):=(I7 ho).andThen .now
 unfold Ep.«object.__getattribute__»
 repeat (first | with_reducible refine Fi ?_ | lk)
 with_reducible refine qK hit ?_
 dsimp only
 exact EI (EI q)
end
theorem kD (l:Addr) (items:Array Value):Meets (Ep.«iter» ⟨[.ref l],[]⟩) (fun zz R s=>s.heap.IsList l items/\R (.ok (.ret (.ref s.heap.objs.size))) {s with heap:=s.heap.push {cls:=.type "list_iterator",data:=.fields #[.ref l,.int 0 0]}}):=
 .of_wp fun prog w A R s h=>by
  obtain ⟨hp,g,d,tk,os⟩:=s;obtain ⟨hl,h⟩:=h;have' hL:Heap.IsList (Shared.heap ⟨hp,g,d,tk,os⟩) l items:=hl
  wp_walk using Hn hL
  exact ⟨_,rfl,h⟩
theorem qJ:JA table "iter" = some Ep.«iter» := entryFor_of_fast (by kernel_rfl)
theorem qq (a:Value):argsOk "iter" ⟨[a],[]⟩:=by unfold argsOk;kernel_rfl
section
variable {C:Cx} {lv:Lv} {N:aF} {ρ ρ₁ ρ₂ ρ₃ ρ' ρ₀:aO} {σ σ₁ σ₂ σ₃ σ₄ σ':aC} {o:Out} {A:Around} {env:Env} {μ μ':Mu} {s s':Shared} {a b:AV} {i j l k:Nat} {pos np:Pos} {e:Expr} {xs:List AV}
theorem aS.one {N:aF} {ρ:aO} {ob:Obj} {o:AO} (G:aX C lv A μ σ s) (F:aM A N env μ ρ s.heap) (tk:Nat) (h:ek C (μ.add s.heap.objs.size [s.heap.objs.size]) (s.heap.push ob) (s.heap.objs.size,[s.heap.objs.size]) o) :
  aS C lv A N env μ s ρ (σ++[o]) (μ.add s.heap.objs.size [s.heap.objs.size]) {s with heap:=s.heap.push ob,toks:=tk}/\af (μ.add s.heap.objs.size [s.heap.objs.size]) (s.heap.push ob) (.ref σ.length) (.ref s.heap.objs.size):=
 ⟨aS.alloc (s':={s with heap:=s.heap.push ob,toks:=tk}) G F (bD _ _) (fun b hb=>by rw [EJ.mp hb,];exact ⟨EK _,by show _<(HY _ _).objs.size;rw [EU,];exact E6 _⟩) (.head _) h,
  ⟨_,by show (μ.objs++[_])[σ.length]? = _;rw [<- G.sim.len,];exact EY,rfl⟩⟩
theorem yx (hx:σ[l]? = some (.list xs)):dQ C lv σ (.builtin "iter") [.ref l] (.ref σ.length) (σ++[.iter l 0]):=by
 intro N ρ A env μ s vs Q E ok G F r hQ
 obtain ⟨u,rfl,ru⟩:=r.e1
 obtain ⟨p,ws,n,rfl,hp,e,h1,hr,hlen⟩:=G.list hx ru
 refine call_function_meets (by decide +kernel) (by decide +kernel) qJ (qq _) (kD p.1 ws) ⟨⟨_,h1,rfl,n,rfl⟩,?_⟩
 have' hl:l<μ.objs.length:=(EL.mp hp).1
 obtain ⟨P,v⟩:=aS.one (ob:={cls:=.type "list_iterator",data:=.fields #[.ref p.1,.int 0 0]}) (o:=.iter l 0) G F s.toks ⟨rfl,p,by show (μ.objs++[_])[l]? = _;rw [Eg hl,];exact hp,ES _ rfl⟩
 exact hQ _ _ _ P v
theorem uu (he:aG C lv N e ρ σ (.ref i) ρ₁ σ₁) (hx:σ₁[i]? = some (.iter l k))
  (hw:autoParam (∀ env,eval (.Attribute e "__next__" pos) env=(do
   let o <- eval e env
   HT pos.atName
   let r <- Hx [o] (JP o "__next__" true)
   H1 e o r
   pure r)) aV):aG C lv N (.Attribute e "__next__" pos) ρ σ (.ref σ₁.length) ρ₁ (σ₁++[.next i]):=fun A env μ s Q E ok G F hQ=>
 Attribute_any_ (he A env μ s _ _ ok G F fun v μ1 s1 P1 ⟨p,hp,e1⟩=>by
  subst e1;obtain ⟨e2,q,hq,ho⟩:=P1.good.sim.rep i p _ hp hx;obtain ⟨hh,g,d,t,os⟩:=s1;refine oA (h:=hh) ⟨_,ho,rfl,rfl⟩ (fun o h=>by rw [ho] at h;cases h;rfl) ?_
  have' hl:i<μ1.objs.length:=(EL.mp hp).1;obtain ⟨P,v⟩:=aS.one (ob:=gA p.1) (o:=.next i) P1.good P1.fr (t+1) ⟨rfl,p,by show (μ1.objs++[_])[i]? = _;rw [Eg hl,];exact hp,ES _ rfl⟩
  exact hQ _ _ _ (P1.trans P) v) (hw env)
theorem gU {M:Model} {h:Heap} {x it:Addr} (ho:h.get? x=some (gA it)):Looks M h (LZ (.ref x)) .machine:=(I7 (part:=none) ho).andThen .now
theorem uD (it:Addr):I9 "list_iterator.__next__" ⟨[.ref it],[]⟩=pure ():=by kernel_rfl
theorem mJ {x it:Addr} {R:Result->Shared->Prop} {prog:Fq} {w:World} (ho:s.heap.get? x=some (gA it))
  (h:GR (model prog w) A (.builtin "list_iterator.__next__" ⟨[.ref it],[]⟩) R s):GR (model prog w) A (.call (.ref x) ⟨[],[]⟩) R s:=by
 obtain ⟨hh,g,d,t,os⟩:=s
 refine Gx ?_
 show wpAny _ _ (Kn (.ref x) _) _ _ _
 dsimp only at ho
 refine Ls ho (nd_bind (nd_pure ?_))
 show wpAny _ _ (I9 "list_iterator.__next__" ⟨[.ref it],[]⟩ >>= _) _ _ _
 rw [uD,]
 exact ED (EI (EI ⟨Code.quiet_builtin _ (by decide +kernel),h⟩))
theorem tW {it l:Addr} {k:Nat} {items:Array Value} {x:Value} {R:Result->Shared->Prop} {prog:Fq} {w:World} (ho:s.heap.get? it=some {cls:=.type "list_iterator",data:=.fields #[.ref l,.int k 0]}) (hl:s.heap.IsList l items) (hx:items[k]? = some x)
  (h:∀ h',h'.get? it=some {cls:=.type "list_iterator",data:=.fields #[.ref l,.int (k+1:Nat) 0]}->G7 it s.heap h'->R (.ok (.ret x)) {s with heap:=h'}) :
  GR (model prog w) A (.builtin "list_iterator.__next__" ⟨[.ref it],[]⟩) R s:=by
 obtain ⟨ol,hol,_,nl,hdl⟩:=hl
 refine Fg Ku ?_
 rw [Around.under_plainId IN.plain _,]
 show wpAny _ _ (field (.ref it) 0 >>= _) _ _ s
 refine ED (IS ho rfl (x:=.ref l) rfl ?_)
 show wpAny _ _ (if (Fj l==FE)=true then _ else _) _ _ s
 rw [if_neg (show ¬ ((Fj l==FE)=true) from Bool.false_ne_true),]
 show wpAny _ _ (field (.ref it) 1 >>= _) _ _ s
 refine ED (IS ho rfl (x:=.int k 0) rfl ?_)
 show wpAny _ _ (seqItems? (.ref l) >>= _) _ _ s
 refine ED (Kc hol hdl ?_)
 simp only [HP,hx]
 refine ED (J5 ho (by simp) fun h' hz hs=>EI (h h' ?_ hs))
 simpa [rawInt] using hz
theorem wY {as:List Value}:ownMembersOf (.type "StopIteration") as = #[]:=by kernel_rfl
theorem rI {α:Type} {M:Model} {E:Value->Shared->Prop} {Q:α->Shared->Prop} (hh:A.handled=none) (h:∀ h' e,Lj s.heap h' e "StopIteration" -> E (.ref e) {s with heap:=h'}) :
  wpAny M A (do raiseNew (<- newExc (.type "StopIteration") []):Sem α) Q E s:=by
 refine ED ?_
 unfold newExc newTuple
 refine ED (G8 ?_ (by size_fits))
 refine ED (m:=firstArgMember _ _) (GG (a:=FE) (by first | rfl | (simp only [firstArgMember];rfl)) ?_)
 refine G8 ?_ (by size_fits)
 unfold raiseNew
 refine ED (wpAny_handled ?_)
 rw [hh,]
 first
  | refine wpAny_throw ?_
  | refine ED (EI (wpAny_throw ?_))
 exact h _ _ ⟨fun b o hb=>EM _ (EM _ hb),HM (by simp),_,.ref s.heap.objs.size,ES _ rfl,rfl,by simp [wY]⟩
theorem xu {it l:Addr} {k:Nat} {items:Array Value} {R:Result->Shared->Prop} {prog:Fq} {w:World} (hh:A.handled=none) (ho:s.heap.get? it=some {cls:=.type "list_iterator",data:=.fields #[.ref l,.int k 0]}) (hl:s.heap.IsList l items) (hx:items[k]? = none)
  (h:∀ h' h2 x,(∃ o,h'.get? it=some o)->G7 it s.heap h'->Lj h' h2 x "StopIteration" -> h'.objs.size<=h2.objs.size->R (.error (.ref x)) {s with heap:=h2}) :
  GR (model prog w) A (.builtin "list_iterator.__next__" ⟨[.ref it],[]⟩) R s:=by
 obtain ⟨ol,hol,_,nl,hdl⟩:=hl
 refine Fg Ku ?_
 rw [Around.under_plainId IN.plain _,]
 show wpAny _ _ (field (.ref it) 0 >>= _) _ _ s
 refine ED (IS ho rfl (x:=.ref l) rfl ?_)
 show wpAny _ _ (if (Fj l==FE)=true then _ else _) _ _ s
 rw [if_neg (show ¬ ((Fj l==FE)=true) from Bool.false_ne_true),]
 show wpAny _ _ (field (.ref it) 1 >>= _) _ _ s
 refine ED (IS ho rfl (x:=.int k 0) rfl ?_)
 show wpAny _ _ (seqItems? (.ref l) >>= _) _ _ s
 refine ED (Kc hol hdl ?_)
 simp only [HP,hx]
 refine ED (IK (ED (J5 ho (by simp) fun h' hz hs=>?_)))
 have' z:wpAny (model prog w) A.in1 (do raiseNew (<- newExc (.type "StopIteration") []):Sem PySem.Fin) (fun fin s'=>match fin with | .done f=>R (.ok f) s' | .again c'=>c'.quiet=true/\GR (model prog w) A c' R s') (fun e s'=>R (.error e) s') {s with heap:=h'}:=
  ao (rI hh fun h2 e hn hl2=>h h' h2 e ⟨_,hz⟩ hs hn hl2)
 exact z
theorem na {f:Expr} {n:Nat} (hf:aG C lv N f ρ σ (.ref n) ρ₁ σ₁) (hn:σ₁[n]? = some (.next i)) (hi:σ₁[i]? = some (.iter l k)) (hl:σ₁[l]? = some (.list xs)) (hx:xs[k]? = some a) (hz:i∉lv.fz)
  (hw:autoParam (∀ env,eval (.Call f [] [] pos) env=(do
   let f <- eval f env
   HO pos f [] (backTo pos (Fy [] env)) (HE pos (GH [] env)))) aV):aG C lv N (.Call f [] [] pos) ρ σ a ρ₁ (σ₁.set i (.iter l (k+1))):=by
 intro A env μ s Q E ok G F hQ
 rw [hw,]
 refine ED (hf A env μ s _ _ ok G F fun v μ1 s1 P1 qq1=>?_)
 obtain ⟨p,hp,e⟩:=qq1
 subst e
 obtain ⟨e1,q,hq,ho⟩:=P1.good.sim.rep n p _ hp hn
 obtain ⟨e2,q2,hq2,ho2⟩:=P1.good.sim.rep i q _ hq hi
 obtain ⟨e3,vs,⟨nn,h3⟩,hr⟩:=P1.good.sim.rep l q2 _ hq2 hl
 refine Ln (P:=fun h=>h.get? p.1=some (gA q.1)) rfl (fun h h0=>⟨_,.inr (.inl rfl),gU h0⟩) (PySem.evalArgs_none ⟨ho,Fi (mJ ho ?_)⟩)
 have hlen:=bP hr
 have hxl:k<xs.length:=(EL.mp hx).1
 have' hv:vs[k]? = some (vs.toList[k]'(by omega)):=by simp
 refine tW ho2 ⟨_,h3,rfl,nn,rfl⟩ hv fun h' hz' hs=>?_
 have hqm:q.1∈q.2:=by rw [e2,];exact .head _
 have' k1:=gV (A:=A) hqm hs
 have P2:=aS.write P1.good P1.fr hq hz k1 (o':=.iter l (k+1)) ⟨e2,q2,hq2,hz'⟩
 exact hQ _ μ1 _ (P1.trans P2) (P2.val P1.good P1.fr (e8 hr k _ a (by simp) hx))
theorem qL {f:Expr} {n:Nat} (hf:aG C lv N f ρ σ (.ref n) ρ₁ σ₁) (hn:σ₁[n]? = some (.next i)) (hi:σ₁[i]? = some (.iter l k)) (hl:σ₁[l]? = some (.list xs)) (hx:xs[k]? = none) (hz:i∉lv.fz) (hq':autoParam (lv.q=true) aR)
  (hw:autoParam (∀ env,eval (.Call f [] [] pos) env=(do
   let f <- eval f env
   HO pos f [] (backTo pos (Fy [] env)) (HE pos (GH [] env)))) aV):sv C lv N (.Call f [] [] pos) ρ σ "StopIteration" ρ₁ (σ₁.set i .deq):=by
 intro A env μ s Q E ok G F hE
 rw [hw,]
 refine ED (hf A env μ s _ _ ok G F fun v μ1 s1 P1 qq1=>?_)
 obtain ⟨p,hp,e⟩:=qq1
 subst e
 obtain ⟨e1,q,hq,ho⟩:=P1.good.sim.rep n p _ hp hn
 obtain ⟨e2,q2,hq2,ho2⟩:=P1.good.sim.rep i q _ hq hi
 obtain ⟨e3,vs,⟨nn,h3⟩,hr⟩:=P1.good.sim.rep l q2 _ hq2 hl
 refine Ln (P:=fun h=>h.get? p.1=some (gA q.1)) rfl (fun h h0=>⟨_,.inr (.inl rfl),gU h0⟩) (PySem.evalArgs_none ⟨ho,Fi (mJ ho ?_)⟩)
 have hlen:=bP hr
 have' hv:vs[k]? = none:=by
  rw [List.getElem?_eq_none_iff] at hx
  exact Array.getElem?_eq_none (by rw [<- FQ,];omega)
 refine xu (P1.good.quiet hq') ho2 ⟨_,h3,rfl,nn,rfl⟩ hv fun h' h2 x hob hs hne hl2=>?_
 have hqm:q.1∈q.2:=by rw [e2,];exact .head _
 have' k1:=gV (A:=A) hqm hs
 have P2:=aS.write P1.good P1.fr hq hz k1 (o':=.deq) ⟨e2,hob⟩
 obtain ⟨P3,fl⟩:=nY (tk:=s1.toks) (s:={s1 with heap:=h'}) P2.good P2.fr hne hl2
 exact (hE.behind G F (P1.trans P2)) x μ1 _ P3 fl
end
section
variable {C:Cx} {lv:Lv} {N:aF} {ρ ρ₁ ρ₂ ρ₃ ρ' ρ₀:aO} {σ σ₁ σ₂ σ₃ σ₄ σ':aC} {o:Out} {A:Around} {env:Env} {μ μ':Mu} {s s':Shared} {a b:AV} {i l:Nat} {pos spos apos:Pos} {e t:Expr} {xs:List (Int×AV)} {k:Int}
theorem ia (hv:aG C lv N e ρ σ a ρ₁ σ₁) (ht:ci C lv N t a ρ₁ σ₁ ρ₂ σ₂):aG C lv N (.NamedExpr t e pos) ρ σ a ρ₂ σ₂:=fun A env μ s Q E ok G F hQ=>
 wpAny_NamedExpr (hv A env μ s _ _ ok G F fun v μ1 s1 P1 r=>ht A env μ1 s1 v _ _ ok P1.good P1.fr r fun μ2 s2 P2=>hQ v μ2 s2 (P1.trans P2) (P2.val P1.good P1.fr r))
theorem pe {value slice:Expr} (hv:aG C lv N value ρ σ (.ref l) ρ₁ σ₁) (hi:aG C lv N slice ρ₁ σ₁ (.dat (.int k)) ρ₂ σ₂) (hx:σ₂[l]? = some (.dict xs)) (hz:l∉lv.fz) (hd:atA xs k=some a) (hlen:xs.length<=1000) :
  aq C lv N (.Delete [.Subscript value slice spos] pos) ρ σ .nxt ρ₂ (σ₂.set l (.dict (gv xs k))):=by
 intro A env μ s Q E ok G F hQ
 refine wpAny_Delete (wpAny_deleteEach_cons ?_)
 rw [arm_delete_Subscript]
 refine ED (hv A env μ s _ _ ok G F fun ov μ1 s1 P1 ro=>ED (E1 (hi A env μ1 s1 _ _ ok P1.good P1.fr fun iv μ2 s2 P2 ⟨bs,ri⟩=>ED (FT ?_))))
 obtain ⟨p,kvs,rfl,hp,e1,hsys,hdict,hr⟩:=P2.good.dict ok hx (P2.val P1.good P1.fr ro)
 have hl:p.1∈p.2:=by rw [e1];exact .head _
 have h2:=kJ (k:=k) hr
 rw [hd] at h2
 obtain ⟨u,hu,ru⟩:=h2
 cases ri using RI with
 | int tt=>
  refine ED (E1 ?_);refine wpAny_delItem_slot hdict.typeIs (by decide) PySem.F.slot_dict_delitem (KN PySem.F.slot_dict_delitem hdict.typeIs PySem.F.entry_dict_delitem (PySem.F.args_dict_delitem_2 _ _) (meets_dict_delitem_pairs (knd:=Gm C.prog C.w) (d:=p.1) (k:=k) (by simp [Gm,IX])) ⟨kvs,hdict,by rw [fZ hr,ER];omega,by rw [hu];rfl,fun h' hd' hsb=>Jt (wpAny_deleteEach_nil ?_)⟩)
  have k1:aL A (·∈p.2) s2 {s2 with heap:=h',toks:=s2.toks+1}:=⟨h',_,_,rfl,⟨Ec hsb.1.symm,id⟩,fun b o hb e=>.inl ((hsb.2 b fun q=>hb (q▸hl)).trans e)⟩
  have' hW:∀ b,b∈p.2\/FA A b->b∈μ2.hid\/s2.heap.objs.size<=b:=P2.good.fw fun b hb=>.inl (P2.good.sim.foot b (aj (EN hp) hb))
  exact hQ _ μ2 _ (P1.trans (P2.trans (aS.write P2.good P2.fr hp hz k1 ⟨e1,_,hd',n8 (cF.mono (Ext.refl _ _) k1 hW hr)⟩))) rfl
theorem pH {h:Heap} {xs:List (Int×AV)} {kvs:List (Int×Value)} (r:cF μ h xs kvs):∀ (i:Nat) (k k':Int) (a:AV) (v:Value),xs[i]? = some (k,a)->kvs[i]? = some (k',v)->k=k'/\af μ h a v:=by
 refine cF.ind r (fun i zz zz zz zz e zz=>by cases e) fun k0 a0 v0 xs kvs hv ih i k k' a v e e'=>?_
 cases i with
 | zero=>cases e;cases e';exact ⟨rfl,hv⟩
 | succ i=>exact ih i k k' a v (by simpa using e) (by simpa using e')
theorem uV {tg:Expr} (h:aG C lv N e ρ σ (.ref i) ρ₁ σ₁) (hx:σ₁[i]? = some (.dict xs)) (hq:autoParam (lv.q=true) aR) (hnm:autoParam (nZ tg=true) aR):gO C lv N tg e [i] ρ σ (xs.map fun p=>.dat (.int p.1)) ρ₁ σ₁:=by
 intro A env μ s Q E ok G F hQ
 refine h A env μ s _ _ ok G F fun v μ1 s1 P1 r=>?_
 obtain ⟨p,kvs,rfl,hp,e1,hsys,hdict,hr⟩:=P1.good.dict ok hx r
 obtain ⟨ep,hat⟩:=hdict.dictAt
 have hlt:p.1<s1.heap.objs.size:=P1.good.lt _ (P1.good.sim.foot _ (aj (EN hp) (by rw [e1];exact .head _)))
 refine wpAny_pyIter_dict hsys hat ?_
 have W:=Walks.dictKeys (prog:=C.prog) (w:=C.w) (knd:=Gm C.prog C.w) (P1.good.quiet hq) s1.heap.objs.size p.1 (FG hlt) kvs ep
 rw [show kvs.length=(xs.map fun p=>AV.dat (.int p.1)).length by simp [fZ hr]] at W
 obtain ⟨P2,it⟩:=dm (tg:=tg) (s':={s1 with heap:=s1.heap.push {cls:=.type "dict_keyiterator",data:=.fields #[.ref p.1,.int 0 0,.int kvs.length 0,.int ep 0]}}) (ls:=[i]) (base:=s.heap.objs.size) P1.good P1.fr P1.kept.le (.name W (iA hnm)) (by show _<(HY _ _).objs.size;rw [EU];exact E6 _) (EK _) (bD _ _)
  ⟨⟨_,ES _ rfl,rfl,by simp [fZ hr]⟩,hat.at' fun o e=>EM _ e⟩ (fun b hb=>by
   rcases EV.mp hb with rfl | hb
   ·exact .inl rfl
   ·rw [EJ.mp hb];exact .inr ⟨hlt,jf P1.good P1.fr hp (by rw [e1];exact .head _),fun zz=>aj (EN hp) (by rw [e1];exact .head _)⟩) fun j v a e ⟨k,x,hk,hkey⟩=>by
    rw [Em] at e
    obtain ⟨q,hq',rfl⟩:=FP.mp e;obtain ⟨t,rfl⟩:=Value.isInt_shape hkey;obtain ⟨rfl,_⟩:=pH hr j q.1 k q.2 x hq' hk;exact ⟨[],.int _ t⟩
 exact hQ _ _ _ (P1.trans P2) it
theorem pC {tg:Expr} (h:aG C lv N e ρ σ (.ref i) ρ₁ σ₁) (hx:σ₁[i]? = some (.dict xs)) (hbase:autoParam (∀ env,HR e "values" env (eval e env)=eval e env) aI) (hline:autoParam ((apos.endLine==pos.line)=true) aR) (hq:autoParam (lv.q=true) aR) (hnm:autoParam (nZ tg=true) aR) :
  gO C lv N tg (.Call (.Attribute e "values" apos) [] [] pos) [i] ρ σ (xs.map (·.2)) ρ₁ σ₁:=by
 intro A env μ s Q E ok G F hQ
 refine IR (hbase env) hline (h A env μ s _ _ ok G F fun v μ1 s1 P1 r=>⟨"dict", "dict.values",PySem.F.plainAttrs_dict,PySem.F.slot_dict_values,PySem.F.type_dict_values,?_⟩)
 have ty:=fq hx μ1 s1 v P1.good.sim r
 refine ⟨ty.1,ty.2,?_⟩
 obtain ⟨p,kvs,rfl,hp,e1,hsys,hdict,hr⟩:=P1.good.dict ok hx r
 obtain ⟨ep,hat⟩:=hdict.dictAt
 have hlt:p.1<s1.heap.objs.size:=P1.good.lt _ (P1.good.sim.foot _ (aj (EN hp) (by rw [e1];exact .head _)))
 refine Fx rfl (PySem.evalArgs_none (KN PySem.F.slot_dict_values hdict.typeIs PySem.F.entry_dict_values (PySem.F.args_dict_values_1 _) (meets_dict_values (Gm C.prog C.w) p.1 hsys) ⟨⟨kvs,hdict⟩,?_⟩))
 have hat2:=hat.at' (h':=s1.heap.push {cls:=.type "dict_values",data:=.fields #[.ref p.1]}) fun o e=>EM _ e
 refine wpAny_pyIter_values (s:={s1 with heap:=s1.heap.push {cls:=.type "dict_values",data:=.fields #[.ref p.1]}}) ⟨_,ES _ rfl,rfl,rfl⟩ hat2 ?_
 generalize hvw:({cls:=.type "dict_values",data:=.fields #[.ref p.1]}:Obj)=vw at *
 have hsz:(s1.heap.push vw).objs.size=s1.heap.objs.size+1:=EU ..
 have W:=Walks.dictValues (prog:=C.prog) (w:=C.w) (knd:=Gm C.prog C.w) (P1.good.quiet hq) (s1.heap.push vw).objs.size p.1 (FG (by rw [hsz];exact HJ hlt)) kvs ep
 rw [show kvs.length=(xs.map (·.2)).length by simp [fZ hr]] at W
 obtain ⟨P2,it⟩:=dm (tg:=tg) (s':={s1 with heap:=(s1.heap.push vw).push {cls:=.type "dict_valueiterator",data:=.fields #[.ref p.1,.int 0 0,.int kvs.length 0,.int ep 0]}}) (ls:=[i]) (base:=s.heap.objs.size) P1.good P1.fr P1.kept.le (.name W (iA hnm)) (by show (s1.heap.push vw).objs.size<(HY _ _).objs.size;rw [EU (s1.heap.push vw)];exact E6 _) (by rw [hsz];exact Ej _) (ab (tk:=s1.toks) (by simp only [EU];exact Fl (Ej _)) fun b o e=>EM _ (EM _ e))
  ⟨⟨_,ES _ rfl,rfl,by simp [fZ hr]⟩,hat2.at' fun o e=>EM _ e⟩ (fun b hb=>by
   rcases EV.mp hb with rfl | hb
   ·exact .inl rfl
   ·rw [EJ.mp hb];exact .inr ⟨hlt,jf P1.good P1.fr hp (by rw [e1];exact .head _),fun zz=>aj (EN hp) (by rw [e1];exact .head _)⟩) fun j v a e ⟨k,hk⟩=>by
    rw [Em] at e
    obtain ⟨q,hq',rfl⟩:=FP.mp e;exact (pH hr j q.1 k q.2 v hq' hk).2
 exact hQ _ _ _ (P1.trans P2) it
end
set_option tactic.hygienic true in
theorem jE {α:Type} {K:Frag} {M:Model} {A:Around} {E:Value->Shared->Prop} {Q:α->Shared->Prop} {s:Shared} {o:Obj} {r:Addr->α} (X:K.In s.heap) (q:Q (r s.heap.objs.size) {s with heap:=s.heap.push o}) (X2:K.In (s.heap.push o)) :
  ∀ (t:Sem α) (g:Addr->Option α),peek1 K ⟨M.prog,M.w.params⟩ t=some (o,g)->(∀ D,g D=some (r D))->wpAny M A t Q E s:=by
 intro t
 induction t with
 | rule _ k ih=>intro g e h;exact ih () g e h
 | point _ k ih=>intro g e h;exact ih () g e h
 | ask k ih=>intro g e h;exact nd_ask (ih _ g e h)
 | load a _ k ih=>
  intro g e h;unfold peek1 at e
  split at e
  ·rename_i o' ho
   exact Ls (X _ _ ho) (ih _ g e h)
  ·cases e
 | alloc o' k ih=>
  intro g e h;unfold peek1 at e
  cases e
  refine nd_alloc ?_;exact (It (M:=M) X2 (h _)).here q
 | _=>intro g e;cases e
section
variable {C:Cx}
theorem bQ.var {fd:Hr} {as:List AV} (names:List Str) (v:Str) (n:Nat) (ds:List PyData) (hds:as.drop n=ds.map .dat)
  (hp:∀ vs:List Value,vs.length=as.length->∀ S,∃ g,peek1 C.K S (Jz fd ⟨vs,[]⟩)=some (({cls:=.type "tuple",data:=.seq (vs.drop n).toArray}:Obj),g)/\∀ D,g D=some (names.zip vs++[(v,.ref D)])):bQ C fd as [] (names.zip as++[(v,.dat (.tuple ds))]):=by
 intro A μ s vs kvs Q E X hlt r rk hQ
 cases kvs with
 | cons _ _=>exact rk.elim
 | nil=>
  obtain ⟨g,h1,h2⟩:=hp vs (bP r) ⟨C.prog,C.w.params⟩;have k:aL A0 NoW s {s with heap:=s.heap.push {cls:=.type "tuple",data:=.seq (vs.drop n).toArray}}:=bD _ _;refine jE (M:=model C.prog C.w) (r:=fun D=>names.zip vs++[(v,.ref D)]) X (hQ _ _ k ?_) (fun a o e=>k.up _ _ (X a o e)) _ g h1 h2
  have r':ay μ (s.heap.push {cls:=.type "tuple",data:=.seq (vs.drop n).toArray}) as vs:=r.mono (Ext.refl _ _) k noW;have hd:ay μ (s.heap.push {cls:=.type "tuple",data:=.seq (vs.drop n).toArray}) (as.drop n) (vs.drop n):=by
   have:∀ (n:Nat) (as:List AV) (vs:List Value),ay μ (s.heap.push {cls:=.type "tuple",data:=.seq (List.drop n (vs:List Value)).toArray}) as vs->True:=fun zz zz zz zz=>trivial
   generalize s.heap.push {cls:=.type "tuple",data:=.seq (vs.drop n).toArray}=hh at r'
   clear this hQ h1 h2 g k r hp hds;revert as vs
   induction n with
   | zero=>intro as vs r';exact r'
   | succ n ih=>
    intro as vs r'
    cases as with
    | nil=>cases vs with
     | nil=>trivial
     | cons _ _=>exact r'.elim
    | cons _ _=>cases vs with
     | nil=>exact r'.elim
     | cons _ _=>exact ih _ r'.2
  rw [hds] at hd
  obtain ⟨bs,ra⟩:=fR hd;refine ke (kn r') ⟨⟨rfl,_,.tuple (Fc _ (ES _ rfl) fun q=>absurd (hlt _ q) (E5 _)) rfl rfl (by simpa using ra)⟩,trivial⟩
end
section
variable {C:Cx} {lv:Lv} {σ:aC}
theorem oO {a b:Int}:Op2 C (.int a) (.int b) (.int (a+b)) (Lg .Add):=.mk fun zz zz zz zz zz zz zz zz zz zz ru rv zz hQ=>by
 cases ru using RI;cases rv using RI
 with_reducible refine AutoIntOps.iadd_0 ?_
 exact hQ _ _ _ (ae _) (.int _ _)
theorem yt {a b:Int}:Op2 C (.int a) (.int b) (.int (a - b)) (Lg .Sub):=.mk fun zz zz zz zz zz zz zz zz zz zz ru rv zz hQ=>by
 cases ru using RI;cases rv using RI
 with_reducible refine AutoIntOps.isub_0 ?_
 exact hQ _ _ _ (ae _) (.int _ _)
end
noncomputable def ce (j np:Int) (l:Nat):AO:=.slot 63 [some (.dat (.int j)),some (.dat (.int np)),some (.ref l)]
structure Nd where
 np:Int
 sc:List Nat
noncomputable def bX (n:Nat):AV:=.dat (.int (n:Int))
noncomputable def c9 (k:Nat):Nat->List Nd->List AO
 | _,[]=>[]
 | j,x :: xs=>ce j x.np (k+3+2 * j) :: .list (x.sc.map bX) :: c9 k (j+1) xs
noncomputable def gu (k n:Nat):List (Int×AV):=(EQ n).map fun (j:Nat)=>((j:Int),AV.ref (k+2+2 * j))
noncomputable def me (k:Nat) (rd:AV) (po nf:Int):List (Str×AV):=[("_node2info",.ref (k+1)),("_ready_nodes",rd),("_npassedout",.dat (.int po)),("_nfinished",.dat (.int nf))]
noncomputable def bd (k:Nat) (rd:AV) (po nf:Int) (nds:List Nd):List AO:=.inst 160 (me k rd po nf) :: .dict (gu k nds.length) :: c9 k 0 nds
theorem mF (k:Nat):∀ (j:Nat) (xs:List Nd),(c9 k j xs).length=2 * xs.length:=by
 intro j xs
 induction xs generalizing j with
 | nil=>rfl
 | cons _ xs ih=>
  rw [c9,E0,E0,ih (j+1),E0];omega
theorem cR (k:Nat) (rd:AV) (po nf:Int) (nds:List Nd):(bd k rd po nf nds).length=2+2 * nds.length:=by
 unfold bd;rw [E0,E0,mF];omega
theorem kp (k:Nat):∀ (i:Nat) (xs:List Nd) (j:Nat) (x:Nd),xs[j]? = some x->(c9 k i xs)[2 * j]? = some (ce (i+j:Nat) x.np (k+3+2 * (i+j)))/\(c9 k i xs)[2 * j+1]? = some (.list (x.sc.map bX)):=by
 intro i xs
 induction xs generalizing i with
 | nil=>intro j x e;cases e
 | cons y xs ih0=>
  intro j x e
  cases j with
  | zero=>cases e;exact ⟨rfl,rfl⟩
  | succ j=>
   have h:=ih0 (i+1) j x (by simpa using e)
   have' e1:i+1+j=i+(j+1):=by omega
   rw [e1] at h
   refine ⟨?_,?_⟩
   ·rw [show 2 * (j+1)=2 * j+1+1 by omega,c9,Ey,Ey];exact h.1
   ·rw [show 2 * (j+1)+1=2 * j+1+1+1 by omega,c9,Ey,Ey];exact h.2
theorem mI (k:Nat):∀ (i:Nat) (xs:List Nd) (j:Nat) (x:Nd),xs[j]? = some x->∀ (np:Int) (sc:List Nat),
  (c9 k i xs).set (2 * j) (ce (i+j:Nat) np (k+3+2 * (i+j)))=c9 k i (xs.set j ⟨np,x.sc⟩)/\(c9 k i xs).set (2 * j+1) (.list (sc.map bX))=c9 k i (xs.set j ⟨x.np,sc⟩):=by
 intro i xs
 induction xs generalizing i with
 | nil=>intro j x e;cases e
 | cons y xs ih0=>
  intro j x e np sc
  cases j with
  | zero=>cases e;exact ⟨rfl,rfl⟩
  | succ j=>
   have h:=ih0 (i+1) j x (by simpa using e) np sc
   have' e1:i+1+j=i+(j+1):=by omega
   rw [e1] at h
   refine ⟨?_,?_⟩
   ·rw [show 2 * (j+1)=2 * j+1+1 by omega,c9,F7,F7,h.1,F7,c9]
   ·rw [show 2 * (j+1)+1=2 * j+1+1+1 by omega,c9,F7,F7,h.2,F7,c9]
theorem vE (k:Nat) (x:Nd):∀ (i:Nat) (xs:List Nd),c9 k i (xs++[x])=c9 k i xs++[ce (i+xs.length:Nat) x.np (k+3+2 * (i+xs.length)),.list (x.sc.map bX)]:=by
 intro i xs
 induction xs generalizing i with
 | nil=>rfl
 | cons y xs ih=>
  rw [Eo,c9,ih (i+1),c9,E0,show i+1+xs.length=i+(xs.length+1) by omega];rfl
section
variable {σ post:aC} {rd:AV} {po nf:Int} {nds:List Nd} {j:Nat} {x:Nd}
theorem dH:(σ++(bd σ.length rd po nf nds++post))[σ.length]? = some (.inst 160 (me σ.length rd po nf)):=by rw [E2 (EK _),GB];rfl
theorem gG:(σ++(bd σ.length rd po nf nds++post))[σ.length+1]? = some (.dict (gu σ.length nds.length)):=by rw [E2 (EP _ _),E4];rfl
theorem zl {i:Nat} {o:AO} (h:(c9 σ.length 0 nds)[i]? = some o):(σ++(bd σ.length rd po nf nds++post))[σ.length+2+i]? = some o:=by
 rw [FC,E2 (EP _ _),E4,show 2+i=i+1+1 by omega,bd,Eo,Eo,Ey,Ey,Eg (EL.mp h).1]
 exact h
theorem eo (h:nds[j]? = some x):(σ++(bd σ.length rd po nf nds++post))[σ.length+2+2 * j]? = some (ce j x.np (σ.length+3+2 * j)):=by
 have:=(kp σ.length 0 nds j x h).1
 rw [HK] at this
 exact zl this
theorem ig (h:nds[j]? = some x):(σ++(bd σ.length rd po nf nds++post))[σ.length+3+2 * j]? = some (.list (x.sc.map bX)):=by
 have:=zl (σ:=σ) (post:=post) (rd:=rd) (po:=po) (nf:=nf) (kp σ.length 0 nds j x h).2
 rwa [show σ.length+2+(2 * j+1)=σ.length+3+2 * j by omega] at this
theorem xG {i:Nat} {o:AO} {nds':List Nd} (hi:i<2 * nds.length) (hl:nds'.length=nds.length) (h:(c9 σ.length 0 nds).set i o=c9 σ.length 0 nds') :
  (σ++(bd σ.length rd po nf nds++post)).set (σ.length+2+i) o=σ++(bd σ.length rd po nf nds'++post):=by
 rw [FC,Eh _ _ (EP _ _),E4,show 2+i=i+1+1 by omega,bd,Eo,Eo,F7,F7,Kd _ _ (by rw [mF];exact hi),h,bd,hl]
 rfl
theorem pz (h:nds[j]? = some x) (np:Int):(σ++(bd σ.length rd po nf nds++post)).set (σ.length+2+2 * j) (ce j np (σ.length+3+2 * j))=σ++(bd σ.length rd po nf (nds.set j ⟨np,x.sc⟩)++post):=by
 have:=(mI σ.length 0 nds j x h np []).1
 rw [HK] at this
 exact xG (by have:=(EL.mp h).1;omega) (by simp) this
theorem yC (h:nds[j]? = some x) (sc:List Nat):(σ++(bd σ.length rd po nf nds++post)).set (σ.length+3+2 * j) (.list (sc.map bX))=σ++(bd σ.length rd po nf (nds.set j ⟨x.np,sc⟩)++post):=by
 have:=xG (σ:=σ) (post:=post) (rd:=rd) (po:=po) (nf:=nf) (by have:=(EL.mp h).1;omega) (by simp) (mI σ.length 0 nds j x h 0 sc).2
 rwa [show σ.length+2+(2 * j+1)=σ.length+3+2 * j by omega] at this
theorem lQ {rd':AV} {po' nf':Int}:(σ++(bd σ.length rd po nf nds++post)).set σ.length (.inst 160 (me σ.length rd' po' nf'))=σ++(bd σ.length rd' po' nf' nds++post):=by
 rw [Eh _ _ (EK _),GB];rfl
theorem ik {k n:Nat} (h:j<n):atA (gu k n) (j:Int)=some (.ref (k+2+2 * j)):=by
 unfold atA gu
 rw [List.find?_map]
 have:(EQ n).find? ((fun p:Int×AV=>decide (p.1=(j:Int))) ∘ fun (j:Nat)=>((j:Int),AV.ref (k+2+2 * j)))=some j:=by
  rw [List.find?_range_eq_some]
  refine ⟨by simp,by simpa using h,fun i hi=>?_⟩
  simp;omega
 rw [this];rfl
theorem vX {k n:Nat}:atA (gu k n) (n:Int)=none:=by
 unfold atA
 rw [KO,J6]
 intro p hp
 obtain ⟨i,hi,rfl⟩:=EO.mp hp
 have:=Ef.mp hi
 simp;omega
theorem wT {k n:Nat}:ev (gu k n) (n:Int) (.ref (k+2+2 * n))=gu k (n+1):=by
 unfold ev
 have:(gu k n).any (fun p=>decide (p.1=(n:Int)))=false:=by
  rw [List.any_eq_false]
  intro p hp;obtain ⟨i,hi,rfl⟩:=EO.mp hp;have:=Ef.mp hi
  simp;omega
 rw [this]
 unfold gu
 rw [if_neg (by decide),HI,Ek];rfl
theorem AL:(σ++(bd σ.length rd po nf nds++[])).set (σ.length+1) (.dict (gu σ.length (nds.length+1)))++[ce nds.length 0 (σ.length+2+2 * nds.length+1),.list []]=σ++(bd σ.length rd po nf (nds++[⟨0,[]⟩])++[]):=by
 rw [Eh _ _ (EP _ _),E4]
 unfold bd
 rw [vE]
 simp
 congr 1;omega
end
theorem rm {K:Frag} {c:Addr} {od:Obj} {name:Str} {f:Addr} (hh:hasDictIn K c=true) (ha:findIn K (.ref c) name=some (some (.ref f))) (hg:JR K (.ref f) "__get__" = some (some (.builtin "function.__get__"))) (ht:Km K (.ref f)=some false) (hc:copiedNames.contains name=false) (hl:lookIn name od=some none) :
  findObj K c (some od) name=some (.bind (.builtin "function.__get__") (.ref f)):=by
 obtain ⟨cd,hc',hd⟩:=Lw hh
 unfold findObj
 have ho:W.ownOf cd (some od) name=some none:=by unfold W.ownOf;rw [if_pos hd];exact hl
 rw [hc',H4,ha,H4]
 dsimp only
 rewrite [hg,H4]
 dsimp only
 rewrite [ht,H4]
 dsimp only
 rewrite [ho,H4]
 dsimp only
 rewrite [hc]
 rfl
section
variable {C:Cx} {lv:Lv} {N:aF} {ρ ρ₁ ρ₂ ρ₃ ρ' ρ₀:aO} {σ σ₁ σ₂ σ₃ σ₄ σ':aC} {o:Out} {A:Around} {env:Env} {μ μ':Mu} {s s':Shared} {a b:AV} {i:Nat} {c:Addr} {xs:List (Str×AV)} {name:Str} {pos apos:Pos} {e:Expr} {as:List AV} {ks:List (Str×AV)} {m:Nat}
theorem kt {M:Model} {q f:Addr} {self:Value} {args:List (Bool×Sem Value)} {kws:List (Option Str×Sem Value)} {Q:Value->Shared->Prop} {E:Value->Shared->Prop} (hf:fnIn C.K f=true) (hstar:(args.any (·.1) || kws.any (·.1.isNone))=true)
  (h:wpAny M A (Ka (.ref q) true args kws) (fun a s₁=>MethP C.K q f self s₁.heap/\wpAny M A (call (.ref q) a.pos a.kw) Q E s₁) E s):wpAny M A (HO pos (.ref q) [] args kws) Q E s:=by
 unfold HO
 refine ED (E1 (Es h (fun a s₁ h₁=>ED (FT ?_)) fun zz zz x=>x))
 have' L:Looks M s₁.heap (LZ (.ref q)) .boundFrame:=by
  cases e:C.K.lookup f with
  | none=>unfold fnIn at hf;rewrite [e] at hf;cases hf
  | some o=>
   obtain ⟨c,d,dt,sl⟩:=o
   cases dt with
   | func x=>
    refine (I7 (part:=none) h₁.1.1).andThen ?_;exact (I7 (part:=none) (h₁.1.2 _ _ e)).andThen .now
   | _=>unfold fnIn at hf;rewrite [e] at hf;cases hf
 refine ED (L.here ?_)
 rw [hstar]
 exact ED (Es (KW h₁.2) (fun r s₂ hr=>ED (E1 (Ll (EI hr)))) fun zz zz x=>x)
theorem mL {ob:Expr} {es:List Expr} {f:Addr} (ho:aG C lv N ob ρ σ (.ref i) ρ₁ σ₁) (hx:σ₁[i]? = some (.inst c xs)) (hc:cE C.K c) (hf:findIn C.K (.ref c) name=some (some (.ref f))) (hg:JR C.K (.ref f) "__get__" = some (some (.builtin "function.__get__"))) (ht:Km C.K (.ref f)=some false)
  (hcn:copiedNames.contains name=false) (hl:xs.lookup name=none) (hfn:fnIn C.K f=true) (hty:typeIn C.K (.ref f)=some (.type "function")) (hstar:∀ env,((backTo pos (Fy es env)).any (·.1) || (HE pos (GH [] env)).any (·.1.isNone))=true) (hv:qC C lv N es [] ρ₁ σ₁ as ks ρ₂ σ₂) (hcall:aP C m lv.fz (.ref f) (.ref i :: as) ks σ₂ b σ') (hmn:m<lv.n) (hq:autoParam (lv.q=true) aR)
  (hw:autoParam (∀ env,eval (.Call (.Attribute ob name apos) es [] pos) env=(do
   let ov <- eval ob env
   HT apos.atName
   let m <- Hx [ov] (do pure (<- JP ov name true,([]:List Value)))
   let p <- pure pos
   HO p m.1 m.2 (backTo pos (Fy es env)) (HE pos (GH [] env)))) aV):aG C lv N (.Call (.Attribute ob name apos) es [] pos) ρ σ b ρ₂ σ':=by
 intro A env μ s Q E ok G F hQ
 rw [hw]
 refine ED (ho A env μ s _ _ ok G F fun v μ1 s1 P1 r=>ED (FT (ED (E1 (ED ?_)))))
 obtain ⟨p,dx,es',n,rfl,hp,e,ne,hd,hr,I⟩:=P1.good.sim.inst hx r
 have X:=P1.good.inK ok
 refine get_bind X I hc.ga (rm hc.hd hf hg ht hcn (by rw [lookIn_dict,lB hr hl])) hc.ge (Fi (fn_get (s:={s1 with toks:=s1.toks+1}) X hty ?_))
 show wpAny _ _ (Lf (.ref s1.heap.objs.size)) _ _ _
 rw [KM rfl]
 refine EI (EI (ED (EI ?_)))
 dsimp only
 have' k1:aL A0 NoW s1 {s1 with heap:=s1.heap.push (Lh (.ref f) (.ref p.1)),toks:=s1.toks+1}:=bD _ _
 have P2:=aS.grow P1.good P1.fr k1
 have' hq0:(s1.heap.push (Lh (.ref f) (.ref p.1))).get? s1.heap.objs.size=some (Lh (.ref f) (.ref p.1)):=ES _ rfl
 refine kt (self:=.ref p.1) hfn (hstar env) (hv A env μ1 _ pos _ _ _ ok P2.good P2.fr fun vs kvs μ3 s3 P3 rv rk=>?_)
 have hq3:s3.heap.get? s1.heap.objs.size=some (Lh (.ref f) (.ref p.1)):=P3.kept.atD (fun hw=>absurd (P1.good.lt _ (dC P2.good.sim P2.fr _ hw)) (E5 _)) (fun zz zz q=>by cases q) hq0
 refine ⟨⟨hq3,P3.good.inK ok⟩,?_⟩
 refine Fi (method_call hq3 ?_)
 have r3:=(P2.trans P3).val P1.good P1.fr r
 refine hcall A μ3 s3 (.ref p.1 :: vs) kvs _ ok (P3.good.around (fun zz=>P1.good.quiet hq) rfl (by have:=P3.good.room;dsimp only;omega) (by have:=P3.good.units;dsimp only;omega) P3.good.frs) ⟨r3,rv⟩ rk fun v μ4 s4 G4 x4 k4 r4=>?_
 exact hQ v μ4 s4 (P1.trans (P2.trans (P3.trans (aS.call rfl P3.good P3.fr G4 x4 k4)))) r4
end
noncomputable def itO (k n:Nat):Option Nat->AO
 | some p=>.iter (k+3+2 * n) p
 | none=>.deq
noncomputable def dO (a k:Nat):Nat->List (Nat×Option Nat)->List AO
 | _,[]=>[]
 | i,x :: r=>itO k x.1 x.2 :: .next (a+4+2 * i) :: dO a k (i+1) r
theorem vb (a k:Nat):∀ i (ex:List (Nat×Option Nat)),(dO a k i ex).length=2 * ex.length:=by
 intro i ex
 induction ex generalizing i with
 | nil=>rfl
 | cons x r ih=>
  rw [dO,E0,E0,ih (i+1),E0];omega
theorem qP (a k:Nat):∀ i (ex:List (Nat×Option Nat)) q x,ex[q]? = some x->(dO a k i ex)[2 * q]? = some (itO k x.1 x.2)/\(dO a k i ex)[2 * q+1]? = some (.next (a+4+2 * (i+q))):=by
 intro i ex
 induction ex generalizing i with
 | nil=>intro j x e;cases e
 | cons y r ih0=>
  intro q x e
  cases q with
  | zero=>cases e;exact ⟨rfl,rfl⟩
  | succ q=>
   have h:=ih0 (i+1) q x (by simpa using e)
   rw [show i+1+q=i+(q+1) by omega] at h
   refine ⟨?_,?_⟩
   ·rw [show 2 * (q+1)=2 * q+1+1 by omega,dO,Ey,Ey];exact h.1
   ·rw [show 2 * (q+1)+1=2 * q+1+1+1 by omega,dO,Ey,Ey];exact h.2
theorem qY (a k:Nat) (p:Option Nat):∀ i (ex:List (Nat×Option Nat)) q x,ex[q]? = some x->(dO a k i ex).set (2 * q) (itO k x.1 p)=dO a k i (ex.set q (x.1,p)):=by
 intro i ex
 induction ex generalizing i with
 | nil=>intro j x e;cases e
 | cons y r ih0=>
  intro q x e
  cases q with
  | zero=>cases e;rfl
  | succ q=>
   have h:=ih0 (i+1) q x (by simpa using e)
   rw [show 2 * (q+1)=2 * q+1+1 by omega,dO,F7,F7,h,F7,dO]
theorem wW (a k:Nat) (x:Nat×Option Nat):∀ i (ex:List (Nat×Option Nat)),dO a k i (ex++[x])=dO a k i ex++[itO k x.1 x.2,.next (a+4+2 * (i+ex.length))]:=by
 intro i ex
 induction ex generalizing i with
 | nil=>rfl
 | cons y r ih=>rw [Eo,dO,ih (i+1),dO,E0,show i+1+r.length=i+(r.length+1) by omega];rfl
noncomputable def dM (st:List (Nat×Nat)):List (Int×AV):=st.zipIdx.map fun x=>((x.1.1:Int),bX x.2)
noncomputable def dfG (Z:aC) (s1 s2 s3 s4:AO) (e:List AO):aC:=Z++(s1 :: s2 :: s3 :: s4 :: e)
noncomputable abbrev dfS (Z:aC) (k:Nat) (ex:List (Nat×Option Nat)) (st:List (Nat×Nat)):aC:=
 dfG Z (.list (st.map fun x=>bX x.1)) (.list (st.map fun x=>.ref (Z.length+5+2 * x.2))) (.set (ex.map fun x=>(x.1:Int))) (.dict (dM st)) (dO Z.length k 0 ex)
section
variable {Z:aC} {s1 s2 s3 s4 y:AO} {e:List AO} {k q:Nat} {ex:List (Nat×Option Nat)} {st:List (Nat×Nat)} {x:Nat×Option Nat}
theorem yR:(dfG Z s1 s2 s3 s4 e)[Z.length]? = some s1:=at_0'
where at_0':(Z++(s1 :: s2 :: s3 :: s4 :: e))[Z.length]? = some s1:=by rw [E2 (EK _),GB];rfl
theorem wK:(dfG Z s1 s2 s3 s4 e)[Z.length+1]? = some s2:=by unfold dfG;rw [E2 (EP _ _),E4];rfl
theorem uY:(dfG Z s1 s2 s3 s4 e)[Z.length+2]? = some s3:=by unfold dfG;rw [E2 (EP _ _),E4];rfl
theorem Ai:(dfG Z s1 s2 s3 s4 e)[Z.length+3]? = some s4:=by unfold dfG;rw [E2 (EP _ _),E4];rfl
theorem wV {i:Nat}:(dfG Z s1 s2 s3 s4 e)[Z.length+4+i]? = e[i]?:=by
 unfold dfG;rw [FC,E2 (EP _ _),E4,show 4+i=i+1+1+1+1 by omega];rfl
theorem gh {i:Nat} {o:AO} (h:Z[i]? = some o):(dfG Z s1 s2 s3 s4 e)[i]? = some o:=by unfold dfG;rw [Eg (EL.mp h).1];exact h
theorem sV:(dfG Z s1 s2 s3 s4 e).set Z.length y=dfG Z y s2 s3 s4 e:=by unfold dfG;rw [Eh _ _ (EK _),GB];rfl
theorem si:(dfG Z s1 s2 s3 s4 e).set (Z.length+1) y=dfG Z s1 y s3 s4 e:=by unfold dfG;rw [Eh _ _ (EP _ _),E4];rfl
theorem yg:(dfG Z s1 s2 s3 s4 e).set (Z.length+2) y=dfG Z s1 s2 y s4 e:=by unfold dfG;rw [Eh _ _ (EP _ _),E4];rfl
theorem sn:(dfG Z s1 s2 s3 s4 e).set (Z.length+3) y=dfG Z s1 s2 s3 y e:=by unfold dfG;rw [Eh _ _ (EP _ _),E4];rfl
theorem sy {i:Nat}:(dfG Z s1 s2 s3 s4 e).set (Z.length+4+i) y=dfG Z s1 s2 s3 s4 (e.set i y):=by
 unfold dfG;rw [FC,Eh _ _ (EP _ _),E4,show 4+i=i+1+1+1+1 by omega];rfl
theorem v8 {t:List AO}:dfG Z s1 s2 s3 s4 e++t=dfG Z s1 s2 s3 s4 (e++t):=by unfold dfG;simp
theorem vt:(dfG Z s1 s2 s3 s4 e).length=Z.length+4+e.length:=by unfold dfG;simp;omega
theorem oz {v q:Nat}:dM (st++[(v,q)])=dM st++[((v:Int),bX st.length)]:=by unfold dM;rw [List.zipIdx_append];simp
theorem pQ {p:Int×AV} (h:p∈dM st):∃ y∈st,p.1=(y.1:Int):=by
 unfold dM at h
 obtain ⟨z,hz,rfl⟩:=EO.mp h
 refine ⟨z.1,?_,rfl⟩
 have:=List.mem_zipIdx hz
 exact (List.mem_iff_getElem.mpr ⟨z.2 - 0,by omega,by have:=this.2.2;simpa using this.symm⟩)
theorem sS {v:Nat} (h:∀ y∈st,y.1≠v):atA (dM st) (v:Int)=none/\(dM st).any (fun p=>decide (p.1=(v:Int)))=false:=by
 have:∀ p∈dM st,p.1≠(v:Int):=fun p hp=>by
  obtain ⟨y,hy,e⟩:=pQ hp
  rw [e];intro q;exact h y hy (by omega)
 refine ⟨?_,?_⟩
 ·unfold atA;rw [KO,J6];intro p hp;simpa using this p hp
 ·rw [List.any_eq_false];intro p hp;simpa using this p hp
theorem x9 {v q:Nat} (h:∀ y∈st,y.1≠v):ev (dM st) (v:Int) (bX st.length)=dM (st++[(v,q)]):=by
 unfold ev;rw [(sS h).2,if_neg (by decide),oz]
theorem yE {v q:Nat} (h:∀ y∈st,y.1≠v):gv (dM (st++[(v,q)])) (v:Int)=dM st/\atA (dM (st++[(v,q)])) (v:Int)=some (bX st.length):=by
 have:∀ p∈dM st,p.1≠(v:Int):=fun p hp=>by
  obtain ⟨y,hy,e⟩:=pQ hp
  rw [e];intro q;exact h y hy (by omega)
 rw [oz]
 refine ⟨?_,?_⟩
 ·unfold gv
  rw [IP,GP.mpr (fun p hp=>by simpa using this p hp)]
  simp
 ·unfold atA
  rw [List.find?_append,J6.mpr (fun p hp=>by simpa using this p hp)]
  simp
theorem or:(dM st).length=st.length:=by unfold dM;simp
end
theorem kH (l:Addr) (items:Array Value) (hfit:(items.size:Int)<2 ^ 63) :
  Meets (Ep.«bool.__new__» ⟨[.type "bool",.ref l],[]⟩) (fun zz R s=>s.heap.IsList l items/\R (.ok (.ret (.bool (!items.isEmpty)))) {s with toks:=s.toks+1+1}):=
 .of_wp fun prog w A R s h=>by
  obtain ⟨hp,g,d,tk,os⟩:=s;obtain ⟨hl,hs⟩:=h;have hL:Heap.IsList (Shared.heap ⟨hp,g,d,tk,os⟩) l items:=hl;have f1:=PySem.F.conv_sub_bool
  repeat (any_goals (first | assumption | (with_reducible refine Ji hL hfit ?_) | wp_step))
  all_goals first | exact ⟨_,rfl,hs⟩ | exact hs | skip
section
variable {C:Cx} {lv:Lv} {N:aF} {ρ ρ₁ ρ₂:aO} {σ σ₁ σ₂:aC} {i:Nat} {xs:List AV} {e:Expr}
theorem yv (hx:σ[i]? = some (.list xs)) (hz:xs.length<=1000):dQ C lv σ (.type "bool") [.ref i] (.dat (.bool (!xs.isEmpty))) σ:=by
 intro N ρ A env μ s vs Q E ok G F r hQ
 obtain ⟨u,rfl,ru⟩:=r.e1
 obtain ⟨p,ws,n,rfl,hp,e,h1,hr,hlen⟩:=G.list hx ru
 have' e2:(!ws.isEmpty) = !xs.isEmpty:=by
  cases xs with
  | nil=>
   have:ws = #[]:=H3 hlen
   rw [this];rfl
  | cons x xs=>
   have:ws.isEmpty=false:=by
    rw [J4];intro q;rw [q] at hlen;simp at hlen
   rw [this];rfl
 refine call_bool_1 (kH p.1 ws (by rw [hlen];omega)) (show s.heap.IsList p.1 ws/\wants (fun obj s₁=>s₁.TypeIs obj "bool" /\ Q obj s₁) E _ _ from ⟨⟨_,h1,rfl,n,rfl⟩,rfl,?_⟩)
 rw [e2]
 exact hQ _ μ _ (aS.grow G F (ae _)) ⟨[],.bool _⟩
theorem aG.int {k:Int} {t:Tok} (h:aG C lv N e ρ σ (.con (.int k t)) ρ₁ σ₁):aG C lv N e ρ σ (.dat (.int k)) ρ₁ σ₁:=fun A env μ s Q E ok G F hQ=>h A env μ s Q E ok G F fun v μ' s' P r=>hQ v μ' s' P (by
 obtain rfl:=r;exact ⟨[],.int k t⟩)
end
noncomputable def so5 (Z:aC) (rd:List Nat) (po nf:Int) (nds:List Nd) (post:aC):aC:=Z++(bd Z.length (.ref (Z.length+2+2 * nds.length)) po nf nds++(.list (rd.map bX) :: post))
section
variable {Z post:aC} {rd:List Nat} {po nf:Int} {nds:List Nd} {j:Nat} {x:Nd}
theorem cO:(so5 Z rd po nf nds post)[Z.length]? = some (.inst 160 (me Z.length (.ref (Z.length+2+2 * nds.length)) po nf)):=dH
theorem jL:(so5 Z rd po nf nds post)[Z.length+1]? = some (.dict (gu Z.length nds.length)):=gG
theorem fB (h:nds[j]? = some x):(so5 Z rd po nf nds post)[Z.length+2+2 * j]? = some (ce j x.np (Z.length+3+2 * j)):=eo h
theorem sU (h:nds[j]? = some x):(so5 Z rd po nf nds post)[Z.length+3+2 * j]? = some (.list (x.sc.map bX)):=ig h
theorem qU:(so5 Z rd po nf nds post)[Z.length+2+2 * nds.length]? = some (.list (rd.map bX)):=by
 unfold so5
 rw [FC,E2 (EP _ _),E4,E2 (by rw [cR];exact EK _),cR,GB];rfl
theorem lF (h:nds[j]? = some x) (np:Int):(so5 Z rd po nf nds post).set (Z.length+2+2 * j) (ce j np (Z.length+3+2 * j))=so5 Z rd po nf (nds.set j ⟨np,x.sc⟩) post:=by
 unfold so5;rw [pz h np,Hh]
theorem qD {rd':List Nat}:(so5 Z rd po nf nds post).set (Z.length+2+2 * nds.length) (.list (rd'.map bX))=so5 Z rd' po nf nds post:=by
 unfold so5
 rw [FC,Eh _ _ (EP _ _),E4,Eh _ _ (by rw [cR];exact EK _),cR,GB];rfl
theorem lS {po' nf':Int}:(so5 Z rd po nf nds post).set Z.length (.inst 160 (me Z.length (.ref (Z.length+2+2 * nds.length)) po' nf'))=so5 Z rd po' nf' nds post:=lQ
end
theorem zr (rd:List Nat):rd.map bX=(rd.map fun (n:Nat)=>Fz (n:Int)).map .dat:=by rw [ET];rfl
noncomputable def bN (v:Int) (l:List Nd) (p:Nat):List Nd:=match l[p]? with
 | some x=>l.set p ⟨v,x.sc⟩
 | none=>l
theorem tv (v:Int) (l:List Nd) (p:Nat):(bN v l p).length=l.length:=by unfold bN;split<;>simp
theorem eM (v:Int):∀ (ps:List Nat) (l:List Nd),(ps.foldl (bN v) l).length=l.length:=by
 intro ps
 induction ps with
 | nil=>exact fun zz=>rfl
 | cons p ps ih=>
  intro l
  rw [Fk,ih,tv]
noncomputable def unv (n:Nat) (ex:List (Nat×Option Nat)):Nat:=((EQ n).filter fun i=>!(ex.map (·.1)).contains i).length
structure eZ (n:Nat) (sc:Nat->List Nat) (ex:List (Nat×Option Nat)) (st:List (Nat×Nat)):Prop where
 inc:(st.map (·.1)).Pairwise (· < ·)
 live:∀ x∈st,∃ p,ex[x.2]? = some (x.1,some p)/\p<=(sc x.1).length
 lt:∀ x∈ex,x.1<n
 nod:(ex.map (·.1)).Nodup
 cnt:ex.length+unv n ex<=n
noncomputable def jF (ex:List (Nat×Option Nat)) (q:Nat):Nat:=match ex[q]? with
 | some (_,some p)=>p
 | _=>0
noncomputable def rest (sc:Nat->List Nat) (ex:List (Nat×Option Nat)):List (Nat×Nat)->Nat
 | []=>0
 | x :: st=>((sc x.1).length - jF ex x.2)+rest sc ex st
theorem jq {P:Nat->Bool} {v:Nat} (hv:P v=true):∀ (l:List Nat),v∈l->(l.filter fun i=>P i && !(i==v)).length<(l.filter P).length:=by
 intro l
 induction l with
 | nil=>intro h;exact absurd h Fe
 | cons x l ih0=>
  intro h;have' le:∀ l:List Nat,(l.filter fun i=>P i && !(i==v)).length<=(l.filter P).length:=fun l=>by
   induction l with
   | nil=>exact EK _
   | cons y l ih=>
    rw [Ex,Ex]
    cases hp:P y<;>cases hy:(y==v)<;>simp<;>omega
  rw [Ex,Ex]
  by_cases q:x=v
  ·subst q
   have:=le l
   simp [hv];omega
  ·have' h':v∈l:=(EV.mp h).resolve_left (Ne.symm q)
   have ih:=ih0 h';have hq:(x==v)=false:=by simpa using q
   cases hp:P x<;>simp [hq]<;>omega
theorem yB {n v:Nat} {ex:List (Nat×Option Nat)} {y:Option Nat} (hv:v<n) (hno:v∉ex.map (·.1)):unv n (ex++[(v,y)])<unv n ex:=by
 unfold unv
 have:=jq (P:=fun i=>!(ex.map (·.1)).contains i) (v:=v) (by simpa using hno) (EQ n) (Ef.mpr hv)
 refine Er (Ec ?_) this
 congr 1
 refine GS fun i zz=>?_
 rw [Ek,FY]
 simp
theorem ez {ex:List (Nat×Option Nat)} {q m:Nat} {y z:Option Nat} (h:ex[q]? = some (m,y)):(ex.set q (m,z)).map (·.1)=ex.map (·.1):=by
 rw [L5]
 refine Ia fun i=>?_
 by_cases hi:i=q
 ·subst hi
  have' hl:=(EL.mp h).1
  rw [F9 (by rw [EF];exact hl),Em,h];rfl
 ·rw [Fm (Ne.symm hi)]
theorem kL {n q m:Nat} {ex:List (Nat×Option Nat)} {y z:Option Nat} (h:ex[q]? = some (m,y)):unv n (ex.set q (m,z))=unv n ex:=by unfold unv;rw [ez h]
theorem qT {sc:Nat->List Nat} {ex:List (Nat×Option Nat)} {q:Nat} {z:Nat×Option Nat}:∀ {st:List (Nat×Nat)},(∀ x∈st,x.2≠q)->rest sc (ex.set q z) st=rest sc ex st:=by
 intro st
 induction st with
 | nil=>exact fun zz=>rfl
 | cons x st ih=>
  intro h;have e:jF (ex.set q z) x.2=jF ex x.2:=by unfold jF;rw [Fm (Ne.symm (h x (.head _)))]
  rw [rest,rest,e,ih fun y hy=>h y (.tail _ hy)]
theorem lA {sc:Nat->List Nat} {ex:List (Nat×Option Nat)} {x:Nat×Nat}:∀ {st:List (Nat×Nat)},rest sc ex (st++[x])=rest sc ex st+((sc x.1).length - jF ex x.2):=by
 intro st
 induction st with
 | nil=>simp [rest]
 | cons y st ih=>rw [Eo,rest,ih,rest];omega
theorem pL {st:List (Nat×Nat)} {m q:Nat} (h:((st++[(m,q)]).map (·.1)).Pairwise (· < ·)):(st.map (·.1)).Pairwise (· < ·)/\∀ x∈st,x.1<m:=by
 rw [Ek,Hp] at h
 exact ⟨h.1,fun x hx=>h.2.2 x.1 (EO.mpr ⟨x,hx,rfl⟩) m (by simp)⟩
theorem wP {n:Nat}:∀ {l:List Nat} {m:Nat},l.Pairwise (· < ·)->(∀ x∈l,m<=x/\x<n)->l.length<=n - m:=by
 intro l
 induction l with
 | nil=>exact fun zz zz=>En _
 | cons x l ih=>
  intro m h hb
  rw [Fh] at h
  have h1:=hb x (.head _);have:=ih (m:=x+1) h.2 fun y hy=>⟨h.1 y hy,(hb y (.tail _ hy)).2⟩
  rw [E0];omega
theorem eZ.stl {n:Nat} {sc:Nat->List Nat} {ex:List (Nat×Option Nat)} {st:List (Nat×Nat)} (I:eZ n sc ex st):st.length<=n:=by
 have:=wP (n:=n) (m:=0) I.inc fun x hx=>⟨En _,by
  obtain ⟨y,hy,rfl⟩:=EO.mp hx;obtain ⟨p,hp,_⟩:=I.live y hy;exact I.lt _ (EN hp)⟩
 simpa using this
section
variable {C:Cx} {lv:Lv} {N:aF} {D:List (Nat×Option Nat)->List (Nat×Nat)->aC} {R:Nat->aO} {ρ0:aO} {sc:Nat->List Nat} {n:Nat} {t1 tt tg:Expr} {body els els2:List Stmt} {ifS ifC:Stmt} {p1 p2:Pos}
theorem Al (hsc:∀ i,i<n->∀ j∈sc i,i<j/\j<n) (v:Nat)
  (h_top:∀ v ex st,eZ n sc ex st->aY C lv N t1 (R v) (D ex st) (!st.isEmpty) (R v) (D ex st))
  (h_next:∀ v ex st m q p v',eZ n sc ex (st++[(m,q)])->ex[q]? = some (m,some p)->(sc m)[p]? = some v'->aw C lv N body (R v) (D ex (st++[(m,q)])) .brk (R v') (D (ex.set q (m,some (p+1))) (st++[(m,q)])))
  (h_pop:∀ v ex st m q p,eZ n sc ex (st++[(m,q)])->ex[q]? = some (m,some p)->(sc m)[p]? = none->aw C lv N body (R v) (D ex (st++[(m,q)])) .nxt (R v) (D (ex.set q (m,none)) st))
  (h_els:∀ v ex,aw C lv N els (R v) (D ex []) .brk (R v) (D ex [])):∀ (k:Nat) (ex:List (Nat×Option Nat)) (st:List (Nat×Nat)),st.length=k->eZ n sc ex st->
  (∃ k' v' ex' st',eU C lv N t1 body els k' (R v) (D ex st) .nxt (R v') (D ex' st')/\eZ n sc ex' st'/\v'<n/\(∀ x∈st',x.1<v')/\unv n ex'=unv n ex/\rest sc ex' st'<rest sc ex st) \/
   ∃ k' ex',eU C lv N t1 body els k' (R v) (D ex st) .brk (R v) (D ex' [])/\eZ n sc ex' []:=by
 intro k
 induction k with
 | zero=>
  intro ex st hk I;obtain rfl:=Gw.mp hk;exact .inr ⟨0,ex,.done (h_top v ex [] I) (h_els v ex),I⟩
 | succ k ih=>
  intro ex st hk I;obtain ⟨st,⟨m,q⟩,rfl⟩:∃ st0 x,st=st0++[x]:=by
   rcases List.eq_nil_or_concat st with h | ⟨l,x,h⟩
   ·rw [h] at hk;cases hk
   ·exact ⟨l,x,by rw [h,List.concat_eq_append]⟩
  rw [EX,Ei] at hk
  obtain ⟨p,hp,hple⟩:=I.live (m,q) (by simp)
  dsimp only at hp hple
  obtain ⟨i1,i2⟩:=pL I.inc;have hqs:∀ x∈st,x.2≠q:=fun x hx e=>by
   obtain ⟨p',hp',_⟩:=I.live x (EG.mpr (.inl hx))
   rw [e,hp] at hp'
   have:=i2 x hx;have:m=x.1:=(Lp.inj (GF.inj hp')).1
   omega
  have hm:m<n:=I.lt _ (EN hp);have' hql:=(EL.mp hp).1;have ht:=h_top v ex (st++[(m,q)]) I
  rw [show (!(st++[(m,q)]).isEmpty)=true by cases st<;>rfl] at ht
  have lts:∀ z,∀ x∈ex.set q (m,z),x.1<n:=fun z x hx=>by
   rcases Jd hx with hx | rfl
   ·exact I.lt x hx
   ·exact hm
  have keep:∀ z,∀ x∈st,∃ p,(ex.set q (m,z))[x.2]? = some (x.1,some p)/\p<=(sc x.1).length:=fun z x hx=>by
   rw [Fm (Ne.symm (hqs x hx))]
   exact I.live x (EG.mpr (.inl hx))
  cases hv:(sc m)[p]? with
  | some v'=>
   obtain ⟨j1,j2⟩:=hsc m hm v' (EN hv);have' hpl:=(EL.mp hv).1;have hq2:(ex.set q (m,some (p+1)))[q]? = some (m,some (p+1)):=F9 hql;refine .inl ⟨0,v',ex.set q (m,some (p+1)),st++[(m,q)],.brk ht (h_next v ex st m q p v' I hp hv),⟨I.inc,fun x hx=>?_,lts _,by rw [ez hp];exact I.nod,by rw [Hh,kL hp];exact I.cnt⟩,j2,fun x hx=>?_,kL hp,?_⟩
   ·rcases EG.mp hx with hx | hx
    ·exact keep _ x hx
    ·rw [EJ.mp hx];exact ⟨p+1,hq2,hpl⟩
   ·rcases EG.mp hx with hx | hx
    ·exact Ht (i2 x hx) j1
    ·rw [EJ.mp hx];exact j1
   ·rw [lA,lA,qT hqs]
    have e1:jF (ex.set q (m,some (p+1))) q=p+1:=by unfold jF;rw [hq2]
    have e2:jF ex q=p:=by unfold jF;rw [hp]
    rw [e1,e2];dsimp only;omega
  | none=>
   have I':eZ n sc (ex.set q (m,none)) st:=⟨i1,keep _,lts _,by rw [ez hp];exact I.nod,by rw [Hh,kL hp];exact I.cnt⟩
   have hb:=h_pop v ex st m q p I hp hv
   rcases ih (ex.set q (m,none)) st (by omega) I' with ⟨k',v',ex',st',h1,h2,h3,h4,h5,h6⟩ | ⟨k',ex',h1,h2⟩
   ·refine .inl ⟨k'+1,v',ex',st',.turn ht hb (.inl rfl) Sub.refl h1,h2,h3,h4,h5.trans (kL hp),?_⟩
    rw [qT hqs] at h6
    rw [lA];omega
   ·exact .inr ⟨k'+1,ex',.turn ht hb (.inl rfl) Sub.refl h1,h2⟩
theorem yn (hsc:∀ i,i<n->∀ j∈sc i,i<j/\j<n)
  (h_true:∀ v ex st,aY C lv N tt (R v) (D ex st) true (R v) (D ex st))
  (h_old:∀ v ex st,eZ n sc ex st->v∈ex.map (·.1)->(∀ x∈st,x.1<v)->aq C lv N ifS (R v) (D ex st) .nxt (R v) (D ex st))
  (h_new:∀ v ex st,eZ n sc ex st->v<n->v∉ex.map (·.1)->(∀ x∈st,x.1<v)->aq C lv N ifS (R v) (D ex st) .nxt (R v) (D (ex++[(v,some 0)]) (st++[(v,ex.length)])))
  (h_in:∀ (v:Nat) (ex:List (Nat×Option Nat)) (st:List (Nat×Nat)),eZ n sc ex st->(∃ k' v' ex' st',eU C lv N t1 body els k' (R v) (D ex st) .nxt (R v') (D ex' st')/\eZ n sc ex' st'/\v'<n/\(∀ x∈st',x.1<v')/\unv n ex'=unv n ex/\rest sc ex' st'<rest sc ex st) \/
   ∃ k' ex',eU C lv N t1 body els k' (R v) (D ex st) .brk (R v) (D ex' [])/\eZ n sc ex' []) :
  ∀ (u r:Nat) (v:Nat) (ex:List (Nat×Option Nat)) (st:List (Nat×Nat)),unv n ex=u->rest sc ex st=r->eZ n sc ex st->v<n->(∀ x∈st,x.1<v)->
  ∃ k v' ex',eU C lv N tt [ifS,.While t1 body els p1] els2 k (R v) (D ex st) .nxt (R v') (D ex' [])/\eZ n sc ex' []:=by
 intro u
 induction u using JG with
 | ind u ihu=>
  intro r
  induction r using JG with
  | ind r ihr=>
   intro v ex st hu hr I hv hst
   by_cases hm:v∈ex.map (·.1)
   ·have s1:=h_old v ex st I hm hst
    rcases h_in v ex st I with ⟨k',v',ex',st',h1,h2,h3,h4,h5,h6⟩ | ⟨k',ex',h1,h2⟩
    ·obtain ⟨k,v2,ex2,w,I2⟩:=ihr _ (hr▸h6) v' ex' st' (h5.trans hu) rfl h2 h3 h4
     exact ⟨k+1,v2,ex2,.turn (h_true v ex st) (aA s1 (aE (dL h1))) (.inl rfl) Sub.refl w,I2⟩
    ·exact ⟨0,v,ex',.brk (h_true v ex st) (aA s1 (aE (dL h1))),h2⟩
   ·have s1:=h_new v ex st I hv hm hst
    have' hnv:=yB (y:=some 0) hv hm;have' I1:eZ n sc (ex++[(v,some 0)]) (st++[(v,ex.length)]):=by
     refine ⟨?_,fun x hx=>?_,fun x hx=>?_,?_,by rw [EX,Ei];have:=I.cnt;omega⟩
     ·rw [Ek,Hp]
      refine ⟨I.inc,Gu _ _,fun a ha b hb=>?_⟩
      obtain ⟨x,hx,rfl⟩:=EO.mp ha
      rw [show b=v by simpa using hb];exact hst x hx
     ·rcases EG.mp hx with hx | hx
      ·obtain ⟨p,h1,h2⟩:=I.live x hx
       exact ⟨p,by rw [Eg (EL.mp h1).1];exact h1,h2⟩
      ·rw [EJ.mp hx];exact ⟨0,EY,En _⟩
     ·rcases EG.mp hx with hx | hx
      ·exact I.lt x hx
      ·rw [EJ.mp hx];exact hv
     ·rw [Ek,GC]
      refine ⟨I.nod,by simp,fun a ha b hb e=>?_⟩
      rw [show b=v by simpa using hb] at e
      exact hm (e▸ha)
    rcases h_in v _ _ I1 with ⟨k',v',ex',st',h1,h2,h3,h4,h5,h6⟩ | ⟨k',ex',h1,h2⟩
    ·obtain ⟨k,v2,ex2,w,I2⟩:=ihu (unv n ex') (by rw [h5,<- hu];exact hnv) _ v' ex' st' rfl rfl h2 h3 h4
     exact ⟨k+1,v2,ex2,.turn (h_true v ex st) (aA s1 (aE (dL h1))) (.inl rfl) Sub.refl w,I2⟩
    ·exact ⟨0,v,ex',.brk (h_true v ex st) (aA s1 (aE (dL h1))),h2⟩
theorem zP (h_sub:∀ v,Sub (R v) ρ0) (h_tg:∀ v ex,ci C lv N tg (bX v) ρ0 (D ex []) (R v) (D ex [])) (h_seen:∀ v ex,eZ n sc ex []->v∈ex.map (·.1)->aq C lv N ifC (R v) (D ex []) .cnt (R v) (D ex []))
  (h_uns:∀ v ex,eZ n sc ex []->v∉ex.map (·.1)->aq C lv N ifC (R v) (D ex []) .nxt (R v) (D ex []))
  (h_out:∀ (v:Nat) (ex:List (Nat×Option Nat)),eZ n sc ex []->v<n->∃ k v' ex',eU C lv N tt [ifS,.While t1 body els p1] els2 k (R v) (D ex []) .nxt (R v') (D ex' [])/\eZ n sc ex' []) :
  ∀ (l:List Nat),(∀ v∈l,v<n)->∀ ex,eZ n sc ex []->∃ ex',fc C lv N tg [ifC,.While tt [ifS,.While t1 body els p1] els2 p2] [] (l.map bX) ρ0 (D ex []) .nxt ρ0 (D ex' []):=by
 intro l
 induction l with
 | nil=>intro _ ex I;exact ⟨ex,.done aH⟩
 | cons v l ih=>
  intro hl ex I
  by_cases hm:v∈ex.map (·.1)
  ·obtain ⟨ex',h⟩:=ih (fun x hx=>hl x (.tail _ hx)) ex I
   exact ⟨ex',.turn (h_tg v ex) (cB (h_seen v ex I hm) (by intro q;cases q)) (.inr rfl) (h_sub v) h⟩
  ·obtain ⟨k,v',ex1,w,I1⟩:=h_out v ex I (hl v (.head _))
   obtain ⟨ex',h⟩:=ih (fun x hx=>hl x (.tail _ hx)) ex1 I1
   exact ⟨ex',.turn (h_tg v ex) (aA (h_uns v ex I hm) (aE (dL w))) (.inl rfl) (h_sub v') h⟩
theorem gW {st:Stmt} {r:List Stmt} {ρ ρ₁:aO} {σ σ₁ σ0:aC} {o:Out} (h:aq C lv N st ρ σ .nxt ρ₁ σ₁) (hr:∃ ρ₂ t,aw C lv N r ρ₁ σ₁ o ρ₂ (σ0++t)):∃ ρ₂ t,aw C lv N (st :: r) ρ σ o ρ₂ (σ0++t):=
 let ⟨ρ₂,t,w⟩:=hr;⟨ρ₂,t,aA h w⟩
theorem xl {α:Type} {E:α->aC} {st:Stmt} {r:List Stmt} {ρ ρ₁:aO} {σ σ0:aC} {o:Out} (h:∃ x,aq C lv N st ρ σ .nxt ρ₁ (E x)) (hr:∀ x,∃ ρ₂ t,aw C lv N r ρ₁ (E x) o ρ₂ (σ0++t)):∃ ρ₂ t,aw C lv N (st :: r) ρ σ o ρ₂ (σ0++t):=
 let ⟨x,h⟩:=h;let ⟨ρ₂,t,w⟩:=hr x;⟨ρ₂,t,aA h w⟩
theorem wH {α:Type} {E:α->aC} {t iter:Expr} {body orelse:List Stmt} {pos:Pos} {ls:List Nat} {items:List AV} {ρ ρ₁ ρ':aO} {σ σ₁:aC} (hi:gO C lv N t iter ls ρ σ items ρ₁ σ₁) (hf:∃ x,fc C {lv with fz:=ls++lv.fz} N t body orelse items ρ₁ σ₁ .nxt ρ' (E x))
  (hs:autoParam (∀ env x,Fu iter env x=pure x) aJ):∃ x,aq C lv N (.For t iter body orelse pos) ρ σ .nxt ρ' (E x):=hf.imp fun zz w=>bf hi w hs
theorem uJ {m:Nat} {fz:List Nat} {f:Addr} {of:Obj} {fd:Hr} {body:List Stmt} {as:List AV} {ks bs:List (Str×AV)} {ρ ρ₁:aO} {σ:aC} {d:PyData} (hK:C.K.lookup f=some of) (hd:of.data=.func fd) (hbody:fd.body=.stmts body) (hcd:codeIn C.K fd.code fd.qualname=true)
  (hcl:fd.closure=[]) (hg:fd.globals=Go) (hbl:fd.builtins=Hb) (hco:fd.scope.isCoroutine=false) (hgen:fd.scope.isGenerator=false) (hkd:fd.scope.kind=.function) (ok:dc fd.scope.names) (hfree:∀ p∈fd.scope.names,p.2≠.free)
  (hb:bQ C fd as ks bs) (bl:cM fd.scope.names ρ) (st:cQ fd.scope.names ρ bs ρ₁) (h:∃ ρ₂ t,aw C ⟨true,m,fz⟩ fd.scope.names body ρ₁ σ (.ret (.dat d)) ρ₂ (σ++t)):aP C (m+1) fz (.ref f) as ks σ (.dat d) σ:=
 let ⟨_,_,w⟩:=h;aP.drop (ou hK hd hbody hcd hcl hg hbl hco hgen hkd ok hfree hb bl st w .ret)
end
section
open Sem (wp)
noncomputable abbrev lz (elt iter:Expr) (x:Str) (px:Pos) (scope:Scope) (pos:Pos):Expr:=.GeneratorExp elt [⟨.Name x px,iter,[],0⟩] scope pos
noncomputable abbrev gN (elt iter:Expr) (x:Str) (px:Pos) (scope:Scope) (pos:Pos) (I:Addr) (cenv:Env):Code:=.compLoop (lz elt iter x px scope pos) 0 (.ref I) .none cenv
noncomputable abbrev vp (elt iter:Expr) (x:Str) (px:Pos) (scope:Scope) (pos:Pos) (I:Addr) (cenv:Env):Code:=.compStart (lz elt iter x px scope pos) 0 (.ref I) .none cenv
theorem rC {B:Around} {elt iter:Expr} {x:Str} {px:Pos} {scope:Scope} {pos:Pos} {I:Addr} {cenv:Env} :
  (B.over (gN elt iter x px scope pos I cenv) []).handled=B.handled/\(B.over (gN elt iter x px scope pos I cenv) []).frames=B.frames.map (cenv :: ·)/\(B.over (gN elt iter x px scope pos I cenv) []).depth=B.depth+1/\(B.over (gN elt iter x px scope pos I cenv) []).units=B.units+3:=
 ⟨rfl,rfl,rfl,rfl⟩
structure xQ (C:Cx) (σ:aC) (N:aF) (cenv:Env) (m:Nat) (x:Str) (elt:Expr) (I ax:Addr) (items:Array Value) (ys:List Str) (f:Str->Str) (ρ0:aO) (ρ1:Str->aO):Prop where
 ok:C.Ok
 co:cenv.scope.isCoroutine=false
 frame:cenv.frame=some cenv.locals
 neI:I≠cenv.locals
 neA:ax≠I
 size:items.size=ys.length
 item:∀ (j:Nat) (v:Value),items[j]? = some v->∃ t:Tok,v=JS (ys.getD j "") t
 st:∀ y,bS N ρ0 x .local (.dat (.str y)) (ρ1 y)
 sub:∀ y,Sub (ρ1 y) ρ0
 elt:∀ y∈ys,aG C ⟨true,m,EQ σ.length⟩ N elt (ρ1 y) σ (.dat (.str (f y))) (ρ1 y) σ
 nocell:∀ y,(y,Ee.cell)∉N
 blank:cM N ρ0
section
variable {C:Cx} {σ:aC} {N:aF} {cenv:Env} {B:Around} {m:Nat} {x:Str} {px:Pos} {elt iter:Expr} {scope:Scope} {pos:Pos} {I ax:Addr} {items:Array Value} {ys:List Str} {f:Str->Str} {ρ0:aO} {ρ1:Str->aO}
noncomputable def xE (C:Cx) (σ:aC) (N:aF) (cenv:Env) (Bi:Around) (m:Nat) (I ax:Addr) (items:Array Value) (ρ0:aO) (j:Nat) (s:Shared):Prop:=
 ∃ μ,aX C ⟨true,m,EQ σ.length⟩ Bi μ σ s/\aM Bi N cenv μ ρ0 s.heap/\I∈μ.hid/\I∉μ.foot/\s.heap.IsListIter I ax j/\s.heap.IsList ax items
noncomputable def qF (Bi:Around) (cenv:Env) (I:Addr) (s₀ s₁:Shared):Prop:=aL Bi (fun b=>b=cenv.locals\/b=I) s₀ s₁
noncomputable def Ab (C:Cx) (σ:aC) (N:aF) (cenv:Env) (Bi:Around) (m:Nat) (I ax:Addr) (items:Array Value) (ys:List Str) (f:Str->Str) (ρ0:aO):Protocol:=fun k s₀ v s₁ kap=>
 ∃ (j:Nat) (t:Tok),j+k+1=ys.length/\s₀.heap.IsListIter I ax j/\v=JS (f (ys.getD j "")) t/\qF Bi cenv I s₀ s₁/\s₁.heap.IsListIter I ax (j+1)/\(∃ mm,s₁.heap.Ns cenv.locals mm)/\∀ s'',xE C σ N cenv Bi m I ax items ρ0 (j+1) s''->kap (.send .none) s''
theorem zB {μ:Mu} {lv:Lv} {A:Around} {s:Shared} (G:aX C lv A μ σ s) (hf:lv.fz=EQ σ.length) {b:Addr}:¬ WC μ b:=by
 rintro ⟨i,p,hp,hi,_⟩
 rw [G.frz,hf] at hi
 have:=(EL.mp hp).1
 rw [G.sim.len] at this
 exact hi (Ef.mpr this)
theorem gb {h:Heap} {j:Nat} (it:h.IsListIter I ax j):∃ o vs,h.get? I=some o/\o.data=.fields vs:=let ⟨o,ho,_,hd⟩:=it;⟨o,_,ho,hd⟩
theorem xp (X:xQ C σ N cenv m x elt I ax items ys f ρ0 ρ1) (hq:B.handled=none):∀ (k j:Nat) (s:Shared),ys.length - j=k->j<=ys.length->xE C σ N cenv (B.over (gN elt iter x px scope pos I cenv) []) m I ax items ρ0 j s->
  Seg (model C.prog C.w) B (fun n s₀ r s₁=>r=.ok .next/\(n=0/\qF (B.over (gN elt iter x px scope pos I cenv) []) cenv I s₀ s₁)) (Ab C σ N cenv (B.over (gN elt iter x px scope pos I cenv) []) m I ax items ys f ρ0) k s
   (gN elt iter x px scope pos I cenv) ((model C.prog C.w).den (gN elt iter x px scope pos I cenv)) [] s:=by
 have' hqi:(B.over (gN elt iter x px scope pos I cenv) []).handled=none:=hq
 have W:=Walks.list (prog:=C.prog) (w:=C.w) hqi I ax X.neA items
 intro k
 induction k with
 | zero=>
  intro j s hk hj qq1;obtain ⟨μ,G,F,hI,hIf,it,hl⟩:=qq1;have hin:j=items.size:=by rw [X.size];omega
  subst hin
  show Seg _ B _ _ _ s _ ((Lu (lz elt iter x px scope pos) 0 (.ref I) .none cenv).onRaise (leaving cenv)) [] s
  rw [compTurn_gen,JK]
  refine GZ (FT ?_);refine GZ (ao (W.done s _ _ ⟨it,hl⟩ fun h' tk hk' hsz=>?_))
  exact seg_end (.ok .next) ⟨rfl,rfl,⟨h',_,tk,rfl,⟨hsz,id⟩,fun b o hb e=>.inl (hk' b o (fun q=>hb (.inr (EJ.mp q))) e)⟩⟩
 | succ k ih=>
  intro j s hk hj qq1;obtain ⟨μ,G,F,hI,hIf,it,hl⟩:=qq1;have hlt:j<items.size:=by rw [X.size];omega
  show Seg _ B _ _ _ s _ ((Lu (lz elt iter x px scope pos) 0 (.ref I) .none cenv).onRaise (leaving cenv)) [] s
  rw [compTurn_gen,JK]
  refine GZ (FT ?_);refine GZ (ao (W.item j s _ _ hlt ⟨it,hl⟩ fun v h₁ tk₁ hPv hst₁ hk₁ hsz=>?_))
  have k1:aL (B.over (gN elt iter x px scope pos I cenv) []) (· = I) s {s with heap:=h₁,toks:=tk₁}:=⟨h₁,_,tk₁,rfl,⟨hsz,id⟩,fun b o hb e=>.inl (hk₁ b o (fun q=>hb (EJ.mp q)) e)⟩
  obtain ⟨oI,vI,hoI,hdI⟩:=gb it;have' hIfa:¬ FA (B.over (gN elt iter x px scope pos I cenv) []) I:=fun q=>by
   obtain ⟨_,_,o,es,n,ho,hd⟩:=G.frs.fa q
   rw [hoI] at ho;cases ho;rw [hdI] at hd;cases hd
  have G1:=G.turn k1 (fun b hb=>hb▸hI) (fun b hb=>hb▸hIf) fun b hf hb=>absurd (hb▸hf) hIfa
  have' F1:=F.ext (Ext.refl μ _) k1 (G.fw fun b hb=>.inl (hb▸hI)) (fun q=>X.neI q.symm) (fun p hp q=>by
   obtain ⟨_,_,_,v,o,ho,hd⟩:=F.cells p hp
   rw [q,hoI] at ho;cases ho;rw [hdI] at hd;cases hd)
  obtain ⟨t,rfl⟩:=X.item j v hPv;refine GZ (GG (rfl:HH (.Name x px) (.ref I) _=pure ()) ?_);refine GZ (Jf (gD G1 F1 (X.st (ys.getD j "")) (.inl rfl) ⟨[],.str _ t⟩ fun s2 P2=>?_))
  simp only [I5]
  refine GZ (EI ?_)
  simp only [if_true]
  have hy:∀ v,yieldOut cenv v=yieldValue v:=fun v=>by simp only [yieldOut,X.co,F6,if_false]
  simp only [hy]
  rw [Sem.bind_eq_wrap',Sem.bind_eq_wrap',Sem.wrap_wrap,Sem.wrap_wrap]
  have' hyin:ys.getD j "" ∈ ys:=by
   have:j<ys.length:=by rw [<- X.size];exact hlt
   rw [GN,Eb this];exact Gi this
  refine seg_wrap (X.elt _ hyin _ cenv μ s2 _ _ X.ok P2.good P2.fr fun v μ3 s3 P3 r=>?_)
  obtain ⟨as,r⟩:=r
  cases r using RS with
  | str t'=>
   have' P23:=P2.trans P3;have' hws:∀ b,WS μ N cenv b->b=cenv.locals:=fun b hb=>by
    rcases hb with q | q | ⟨y,hy,_⟩
    ·exact absurd q (zB G1 rfl)
    ·exact q
    ·exact absurd hy (X.nocell y)
   have k23:aL (B.over (gN elt iter x px scope pos I cenv) []) (· = cenv.locals) {s with heap:=h₁,toks:=tk₁} s3:=P23.kept.mono fun b hb=>.inl (hws b hb)
   have k3:qF (B.over (gN elt iter x px scope pos I cenv) []) cenv I s s3:=aL.trans (k1.mono fun b hb=>.inl (.inr hb)) k23 fun b hb=>.inl (.inl hb)
   have itI:s3.heap.IsListIter I ax (j+1):=by
    obtain ⟨o,ho,hc,hd⟩:=hst₁.1;exact ⟨o,k23.atD X.neI (fun es n q=>by rw [hd] at q;cases q) ho,hc,hd⟩
   obtain ⟨mm,hmm,_⟩:=P3.fr.vals;refine seg_at (seg_yield rfl rfl rfl ⟨j,t',by omega,it,rfl,k3,itI,⟨mm,hmm⟩,fun s'' hR=>?_⟩)
   exact seg_again rfl (ih (j+1) s'' (by omega) (by omega) hR)
theorem uq (X:xQ C σ N cenv m x elt I ax items ys f ρ0 ρ1) (hq:B.handled=none) (s:Shared) (hR:xE C σ N cenv (B.over (gN elt iter x px scope pos I cenv) []) m I ax items ρ0 0 s) :
  Seg (model C.prog C.w) B (fun n s₀ r s₁=>r=.ok .next/\(n=0/\qF (B.over (gN elt iter x px scope pos I cenv) []) cenv I s₀ s₁)) (Ab C σ N cenv (B.over (gN elt iter x px scope pos I cenv) []) m I ax items ys f ρ0) ys.length s
   (vp elt iter x px scope pos I cenv) ((model C.prog C.w).den (vp elt iter x px scope pos I cenv)) [] s:=by
 have loop:=xp (px:=px) (iter:=iter) (scope:=scope) (pos:=pos) X hq ys.length 0 s (Nat.sub_zero _) (En _) hR
 obtain ⟨μ,G,F,hI,hIf,it,hl⟩:=hR
 have' W:=Walks.list (prog:=C.prog) (w:=C.w) (A:=B.over (vp elt iter x px scope pos I cenv) []) hq I ax X.neA items
 show Seg _ B _ _ _ s _ ((Lc (lz elt iter x px scope pos) 0 (.ref I) .none cenv).onRaise (leaving cenv)) [] s
 unfold Lc
 rw [JK]
 show Seg _ B _ _ _ s _ ((ask >>= _).wrap _ _ _ _) [] s
 refine GZ (Ik ?_)
 split
 ·exact seg_again rfl loop
 ·refine GZ (IK ?_)
  show Seg _ B _ _ _ s _ ((HT iter.pos >>= _).wrap _ _ _ _) [] s
  exact GZ (FT (GZ (W.self 0 s _ _ ⟨it,hl⟩ (seg_again rfl loop))))
end
end
section
open Sem (wp)
noncomputable abbrev dq (acc:Array Value) (c:Nat):Obj:={cls:=.type "list",dict:=none,data:=.seq acc c,slots:=#[]}
section
variable {prog:Fq} {w:World} {A:Around} {R:Result->Shared->Prop} {I S:Addr} {n:Nat} {Inv:Nat->Shared->Prop} {Mid:Nat->Value->Shared->Prop} {Fin:Shared->Prop} {res:Value}
theorem kc (hs:∀ i v s,Mid i v s->∃ acc c,s.heap.get? S=some (dq acc c)/\acc.size<=1000)
  (hitem:∀ i s (Q:Option Value->Shared->Prop) (E:Value->Shared->Prop),i<n->Inv i s->(∀ v s',Mid i v s'->Q (some v) s')->wpAny (model prog w) A.in1 (pyNext (.ref I)) Q E s)
  (hmid:∀ i v s,Mid i v s->Inv (i+1) {s with heap:=s.heap.update S (FB (·.push v))})
  (hdone:∀ s (Q:Option Value->Shared->Prop) (E:Value->Shared->Prop),Inv n s->(∀ s',Fin s'->Q none s')->wpAny (model prog w) A.in1 (pyNext (.ref I)) Q E s)
  (hfin:∀ s',Fin s'->R (.ok (.ret res)) s'):∀ (k i:Nat) (s:Shared),n - i=k->i<=n->Inv i s->GR (model prog w) A (.builtin "list.extend.loop" ⟨[.ref S,.ref I,res],[]⟩) R s:=by
 intro k
 induction k with
 | zero=>
  intro i s hk hi hv;obtain rfl:i=n:=by omega
  refine Fg PySem.F.entry_extend_loop ?_
  rw [Around.under_plainId PySem.F.plain_extend_loop _]
  show wpAny _ A.in1 (pyNext (.ref I) >>= _) _ _ s
  exact ED (hdone s _ _ hv fun s' hf=>EI (hfin s' hf))
 | succ k ih=>
  intro i s hk hi hv;refine Fg PySem.F.entry_extend_loop ?_
  rw [Around.under_plainId PySem.F.plain_extend_loop _]
  show wpAny _ A.in1 (pyNext (.ref I) >>= _) _ _ s
  refine ED (hitem i s _ _ (by omega) hv fun v s' hm=>?_)
  obtain ⟨acc,c,hS,hz⟩:=hs i v s' hm
  show wpAny _ A.in1 (KE S (·.push v) >>= _) _ _ _
  refine ED (Hi hS rfl (EI ⟨Hk PySem.F.plain_extend_loop _,ih (i+1) _ (by omega) (by omega) (hmid i v s' hm)⟩) (by rw [ER];omega) (by show (acc.push v).size<=FI+1;rw [KU,ER];omega))
end
section
variable {prog:Fq} {w:World} {A:Around} {E:Value->Shared->Prop} {s:Shared} {I J:Addr} {n:Nat}
theorem pF {ty:Value} {Inv:Nat->Shared->Prop} {Mid:Nat->Value->Shared->Prop} {Fin:Shared->Prop} {Q:List Value->Shared->Prop} (hI:I<s.heap.objs.size) (hJ:J<s.heap.objs.size)
  (hty:Looks (model prog w) s.heap (typeOf (.ref I)) ty) (h2:(ty==Fa "list")=false) (h3:(ty==Fa "tuple")=false)
  (hself:∀ (s0:Shared) (Q:Value->Shared->Prop) (E:Value->Shared->Prop),s0={s with heap:=s.heap.push (dq #[] 0)}->(∀ s1:Shared,(∃ tk,s1={s0 with toks:=tk})->Q (.ref J) s1)->wpAny (model prog w) A.in1 (pyIter (.ref I)) Q E s0)
  (hn1:∀ h',(∀ b o,s.heap.get? b=some o->h'.get? b=some o)->Looks (model prog w) h' (Gk (.ref I) "__len__") none) (hn2:∀ h',(∀ b o,s.heap.get? b=some o->h'.get? b=some o)->Looks (model prog w) h' (Gk (.ref I) "__length_hint__") none)
  (hinv:∀ tk h',h'.get? s.heap.objs.size=some (dq #[] 2)->h'.objs.size=s.heap.objs.size+1->(∀ b o,s.heap.get? b=some o->h'.get? b=some o)->Inv 0 {s with heap:=h',toks:=tk})
  (hs:∀ i v s',Mid i v s'->∃ acc c,s'.heap.get? s.heap.objs.size=some (dq acc c)/\acc.size<=1000)
  (hitem:∀ i s' (Q:Option Value->Shared->Prop) (E:Value->Shared->Prop),i<n->Inv i s'->(∀ v s',Mid i v s'->Q (some v) s')->wpAny (model prog w) A.in1 (pyNext (.ref J)) Q E s')
  (hmid:∀ i v s',Mid i v s'->Inv (i+1) {s' with heap:=s'.heap.update s.heap.objs.size (FB (·.push v))})
  (hdone:∀ s' (Q:Option Value->Shared->Prop) (E:Value->Shared->Prop),Inv n s'->(∀ s'',Fin s''->Q none s'')->wpAny (model prog w) A.in1 (pyNext (.ref J)) Q E s')
  (hfin:∀ s',Fin s'->∃ acc c,s'.heap.get? s.heap.objs.size=some (dq acc c)/\Q acc.toList s'):wpAny (model prog w) A (Lr (.ref I)) Q E s:=by
 unfold Lr
 refine ED (wpAny_runValue (Fg PySem.F.entry_proto_collect ?_))
 rw [Around.under_plainId PySem.F.plain_proto_collect _]
 show wpAny _ A.in1 (Lq [] >>= fun l=>again (.builtin "list.__iadd__" ⟨[l,.ref I],[]⟩)) _ _ s
 refine ED (G8 ?_)
 refine EI ⟨Hk PySem.F.plain_list_iadd _,Fg PySem.F.entry_list_iadd ?_⟩
 rw [Around.under_plainId PySem.F.plain_list_iadd _]
 have keep0:∀ b o,s.heap.get? b=some o->(s.heap.push (dq #[] 0)).get? b=some o:=fun b o e=>EM _ e
 show wpAny _ A.in1 (Ep.List.listExtendWith (.ref s.heap.objs.size) (.ref I) (.ref s.heap.objs.size)) _ _ {s with heap:=s.heap.push (dq #[] 0)}
 unfold Ep.List.listExtendWith
 refine ED ((hty.keeps keep0).here ?_)
 have hSI:s.heap.objs.size≠I:=I4 hI
 have h1:Ep.List.listSameRef (.ref s.heap.objs.size) (.ref I)=false:=by simp [Ep.List.listSameRef,hSI]
 simp only [h1,h2,h3,LB,F6,if_false]
 refine ED (hself _ _ _ rfl fun s1 hs1=>?_)
 obtain ⟨tk,rfl⟩:=hs1
 refine ED (E1 ?_)
 unfold Ep.List.listLengthHint
 refine ED ((hn1 _ keep0).here ?_)
 show wpAny _ A.in1 (Gk (Fj I) (EE "__length_hint__") >>= _) _ _ _
 refine ED ((hn2 _ keep0).here ?_)
 refine EI ?_
 show wpAny _ A.in1 (rule "list.extend.makes-room" >>= fun zz=>Ep.List.listTouch (.ref s.heap.objs.size) >>= fun zz=>
  again (.builtin "list.extend.loop" ⟨[.ref s.heap.objs.size,.ref J,.ref s.heap.objs.size],[]⟩)) _ _ _
 refine ED (IK ?_)
 have hS₁:(s.heap.push (dq #[] 0)).get? s.heap.objs.size=some (dq #[] 0):=ES _ rfl
 refine ED ?_
 show wpAny _ A.in1 (KE s.heap.objs.size (·.push .none) >>= fun zz=>KE s.heap.objs.size (·.pop)) _ _ _
 refine ED (Hi hS₁ rfl ?_)
 have hS₂:=FU (FB (·.push FE)) hS₁ rfl
 refine Hi hS₂ rfl ?_
 have' hS₃:=FU (FB (·.pop)) hS₂ rfl
 refine EI ⟨Hk PySem.F.plain_extend_loop _,kc (n:=n) (Inv:=Inv) (Mid:=Mid) (Fin:=Fin) hs hitem hmid hdone (fun s' hf=>?_) n 0 _ rfl (En _) (hinv tk _ hS₃ (by rw [Gj,Gj,EU]) fun b o e=>?_)⟩
 ·obtain ⟨acc,c,hS,hQ⟩:=hfin s' hf
  show wpAny _ A (load s.heap.objs.size >>= _) _ _ s'
  exact ED (KP hS (EI hQ))
 ·have hne:s.heap.objs.size≠b:=I4 (Ed e)
  rw [GM _ _ hne,GM _ _ hne]
  exact keep0 b o e
end
end
section
open Sem (wp)
section
variable {C:Cx} {lv:Lv} {σ:aC} {N:aF} {cenv:Env} {P:Around} {m:Nat} {x:Str} {px:Pos} {elt iter:Expr} {scope:Scope} {pos:Pos} {I ax a S:Addr} {g:Nat} {items:Array Value} {ys:List Str} {f:Str->Str} {ρ0:aO} {ρ1:Str->aO} {μ0:Mu} {s0:Shared}
noncomputable abbrev pY (P:Around) (elt iter:Expr) (x:Str) (px:Pos) (scope:Scope) (pos:Pos) (I:Addr) (cenv:Env):Around:=P.in1.over (gN elt iter x px scope pos I cenv) []
noncomputable abbrev A5 (Bi:Around) (cenv:Env) (I:Addr):GenEnd:=fun n s₀ r s₁=>r=.ok .next/\(n=0/\qF Bi cenv I s₀ s₁)
noncomputable def oq (h:Heap) (S:Addr) (ys:List Str) (f:Str->Str) (j:Nat):Prop:=∃ acc c,h.get? S=some (dq acc c)/\acc.size=j/\∀ i v,acc[i]? = some v->∃ t:Tok,v=JS (f (ys.getD i "")) t
structure iI (C:Cx) (lv:Lv) (P Bi:Around) (σ:aC) (N:aF) (cenv:Env) (m:Nat) (I ax a S:Addr) (g:Nat) (items:Array Value) (ys:List Str) (f:Str->Str) (ρ0:aO) (μ0:Mu) (s0:Shared) (j ja:Nat) (μ:Mu) (s:Shared):Prop where
 good:aX C lv P μ σ s
 ext:Ext μ0 μ s0.heap.objs.size
 kept:aL P (fun b=>(b=I\/b=cenv.locals)\/s0.heap.objs.size<=b) s0 s
 fr:aM Bi N cenv μ ρ0 s.heap
 frn:cenv.frame=some cenv.locals
 nocells:cenv.cells=[]
 nfa:¬ FA P cenv.locals
 hI:I∈μ.hid/\I∉μ.foot
 hS:S∈μ.hid/\S∉μ.foot
 new:ax<s0.heap.objs.size/\s0.heap.objs.size<=S
 neI:I≠cenv.locals
 it:s.heap.IsListIter I ax j
 hl:s.heap.IsList ax items
 gen:s.heap.IsGen a g
 acc:oq s.heap S ys f ja
 gs:∃ gs,s.gens[g]? = some gs/\∀ s'',xE C σ N cenv Bi m I ax items ρ0 j s''->gs.Goes (model C.prog C.w) P.in1 (A5 Bi cenv I) (Ab C σ N cenv Bi m I ax items ys f ρ0) (ys.length - j) (.send .none) s''
theorem aM.reblank {A:Around} {env:Env} {μ μ':Mu} {ρ:aO} {h h':Heap} {mm:Str->Option Value} (F:aM A N env μ ρ h) (hc:env.cells=[]) (hb:cM N ρ0) (h1:env.locals∈μ'.hid) (h2:env.locals∉μ'.foot) (hn:h'.Ns env.locals mm):aM A N env μ' ρ0 h':=
 ⟨F.fn,F.glob,F.blt,F.nodup,F.plain,F.kinds,h1,h2,F.cellsIn,(fun p hp=>by rw [hc] at hp;cases hp),F.apart,F.fe,mm,hn,hb.vars⟩
theorem lC {s:Shared} {g:Nat} {x:K7} (hx:x.bare=true) (h:Kj s.gens):Kj (s.setGen g x).gens:=fun y hy=>by
 unfold Shared.setGen at hy
 rcases Array.mem_or_eq_of_mem_setIfInBounds hy with q | q
 ·exact h y q
 ·rw [q];exact hx
theorem iI.ready {Bi:Around} {j ja:Nat} {μ:Mu} {s:Shared} (V:iI C lv P Bi σ N cenv m I ax a S g items ys f ρ0 μ0 s0 j ja μ s) (hq:lv.q=true) (hm:m<lv.n) (e1:Bi.handled=P.handled) (e2:Bi.frames=P.frames.map (cenv :: ·)) (e3:Bi.depth=P.depth+1) (e4:Bi.units=P.units+4) :
  xE C σ N cenv Bi m I ax items ρ0 j (s.setGen g .running):=by
 have' k:aL A0 NoW s (s.setGen g .running):=⟨s.heap,_,s.toks,rfl,⟨EK _,lC rfl⟩,fun b o zz e=>.inl e⟩
 have G1:=V.good.grow k
 have hr:=G1.room
 have hu:=G1.units
 have G2:aX C ⟨true,m,lv.fz⟩ Bi μ σ (s.setGen g .running):=G1.around (fun zz=>e1.trans (G1.quiet hq)) rfl (by rw [e3];dsimp only;omega) (by rw [e4];dsimp only;omega) (by
  obtain ⟨l,e,H⟩:=G1.frs.all;refine ⟨cenv :: l,by rw [e2,e];rfl,fun e' hm=>?_⟩
  rcases EV.mp hm with rfl | hm
  ·obtain ⟨mm,⟨o,es,n,ho,hd,_⟩,_⟩:=V.fr.vals
   exact ⟨by rw [V.fr.fn];decide,_,V.frn,V.fr.hidL,V.fr.freeL,o,es,n,ho,hd⟩
  ·exact H e' hm)
 exact ⟨{μ with fz:=EQ σ.length},G2.fz _,V.fr.fz _,V.hI.1,V.hI.2,V.it,V.hl⟩
theorem ve {Bi:Around} (e2:Bi.frames=P.frames.map (cenv :: ·)) (hf:cenv.frame=some cenv.locals) {b:Addr} (h:FA Bi b):FA P b\/b=cenv.locals:=by
 obtain ⟨l,e,e',hm,hb⟩:=h
 rw [e2] at e
 cases hA:P.frames with
 | none=>rw [hA] at e;cases e
 | some l0=>
  rw [hA] at e
  cases e
  rcases EV.mp hm with rfl | hm
  ·rw [hf] at hb;cases hb;exact .inr rfl
  ·exact .inl ⟨l0,hA,e',hm,hb⟩
theorem iI.after {Bi:Around} {j ja:Nat} {μ:Mu} {s s₁:Shared} {h':Heap} {gs':K7} (hgb:gs'.bare=true) (V:iI C lv P Bi σ N cenv m I ax a S g items ys f ρ0 μ0 s0 j ja μ s) (e2:Bi.frames=P.frames.map (cenv :: ·)) (hK:qF Bi cenv I (s.setGen g .running) s₁)
  (hk:∀ b o,s₁.heap.get? b=some o->h'.get? b=some o) (hz:s.heap.objs.size<=h'.objs.size) :
  aX C lv P μ σ {s₁.setGen g gs' with heap:=h'}/\aL P (fun b=>(b=I\/b=cenv.locals)\/s0.heap.objs.size<=b) s0 {s₁.setGen g gs' with heap:=h'}/\h'.IsList ax items/\h'.IsGen a g/\oq h' S ys f ja:=by
 obtain ⟨oI,vI,hoI,hdI⟩:=gb V.it
 obtain ⟨mm0,⟨oL,esL,nL,hoL,hdL,_⟩,_⟩:=V.fr.vals
 have' hIfa:¬ FA P I:=fun q=>by
  obtain ⟨_,_,o,es,n,ho,hd⟩:=V.good.frs.fa q
  rw [hoI] at ho;cases ho;rw [hdI] at hd;cases hd
 have k:aL P (fun b=>b=cenv.locals\/b=I) s {s₁.setGen g gs' with heap:=h'}:=by
  have' k0:=hK.frames (A':=P) fun b hb=>(ve e2 V.frn hb).imp id fun q=>.inl (.inl q)
  obtain ⟨h1,g1,t1,rfl,l1,x1⟩:=k0;refine ⟨h',_,t1,rfl,⟨hz,fun q=>lC hgb (l1.2 (lC rfl q))⟩,fun b o hb e=>?_⟩
  rcases x1 b o hb e with q | ⟨q1,q2,o',q3,q4⟩
  ·exact .inl (hk b o q)
  ·exact .inr ⟨q1,q2,o',hk b o' q3,q4⟩
 have hne:∀ {b:Addr} {o:Obj},s.heap.get? b=some o->(∀ es n,o.data≠.dict es n)->b≠I->h'.get? b=some o:=fun {b o} e hd hb=>
  k.atD (fun q=>by
   rcases q with rfl | q
   ·rw [e] at hoL;cases hoL;exact hd _ _ hdL
   ·exact hb q) hd e
 refine ⟨V.good.turn k (fun b hb=>?_) (fun b hb=>?_) (fun b hf hb=>?_),V.kept.trans k (fun d hd=>.inl (.inl ?_)),?_,?_,?_⟩
 ·rcases hb with rfl | rfl
  ·exact V.fr.hidL
  ·exact V.hI.1
 ·rcases hb with rfl | rfl
  ·exact V.fr.freeL
  ·exact V.hI.2
 ·rcases hb with rfl | rfl
  ·exact absurd hf V.nfa
  ·exact absurd hf hIfa
 ·exact hd.symm
 ·obtain ⟨o,ho,hc,n,hd⟩:=V.hl
  refine ⟨o,hne ho (fun es n q=>by rw [hd] at q;cases q) (fun q=>?_),hc,n,hd⟩
  rw [q,hoI] at ho;cases ho;rw [hdI] at hd;cases hd
 ·obtain ⟨o,nm,qn,ho,hc,hd,hsl⟩:=V.gen
  refine ⟨o,nm,qn,hne ho (fun es n q=>by rw [hd] at q;cases q) (fun q=>?_),hc,hd,hsl⟩
  obtain ⟨o',ho',hc',_⟩:=V.it
  rw [q,ho'] at ho;cases ho;rw [hc] at hc';exact absurd hc' (by decide)
 ·obtain ⟨acc,c,ho,r⟩:=V.acc
  refine ⟨acc,c,hne ho (fun es n q=>by cases q) (fun q=>?_),r⟩
  rw [q,hoI] at ho;cases ho
  exact absurd hdI (by intro z;cases z)
theorem iI.item {j ja:Nat} {μ:Mu} {s:Shared} {Q:Option Value->Shared->Prop} {E:Value->Shared->Prop} (ok:C.Ok) (hb0:cM N ρ0) (hq:lv.q=true) (hm:m<lv.n) (V:iI C lv P (pY P elt iter x px scope pos I cenv) σ N cenv m I ax a S g items ys f ρ0 μ0 s0 j ja μ s) (hj:j<ys.length)
  (hQ:∀ t s',iI C lv P (pY P elt iter x px scope pos I cenv) σ N cenv m I ax a S g items ys f ρ0 μ0 s0 (j+1) ja μ s'->Q (some (.str (f (ys.getD j "")) t)) s'):wpAny (model C.prog C.w) P (pyNext (.ref a)) Q E s:=by
 obtain ⟨o1,o2,o3,o4⟩:=rC (B:=P.in1) (elt:=elt) (iter:=iter) (x:=x) (px:=px) (scope:=scope) (pos:=pos) (I:=I) (cenv:=cenv)
 have hR:=V.ready hq hm o1 o2 o3 (by rw [o4])
 obtain ⟨gs,hgs,hgo⟩:=V.gs
 obtain ⟨k,hk⟩:∃ k,ys.length - j=k+1:=⟨ys.length - j - 1,by omega⟩
 rw [hk] at hgo
 have hr:=V.good.room
 refine qx (wpAny_pyNext_genexpQ (P:=fun n s₀ s₁=>n=0/\qF (pY P elt iter x px scope pos I cenv) cenv I s₀ s₁) (V.good.quiet hq) (ok.lim.keeps V.good.base) (by omega) V.gen hgs (hgo _ hR) (fun v s₁ gs' hgb hv=>?_) fun s₁ hp h' hk'=>absurd hp.1 (HW k))
 intro hgz
 obtain ⟨j',t,ej,it',rfl,hK,itI,⟨mm,hmm⟩,hkap⟩:=hv
 have' ejj:j'=j:=by
  obtain ⟨o,ho,_,hd⟩:=it';obtain ⟨o2,ho2,_,hd2⟩:=V.it;have' ho3:(s.setGen g .running).heap.get? I=some o2:=ho2
  rw [ho3] at ho;cases ho
  rw [hd2] at hd
  have:=congrArg (fun d:Data=>match d with | .fields vs=>vs.toList | _=>[]) hd
  simp at this
  omega
 subst ejj
 obtain ⟨a1,a2,a3,a4,a5⟩:=iI.after (gs':=gs') (h':=s₁.heap) hgb V o2 hK (fun zz zz e=>e) hK.le
 refine hQ t _ ⟨a1,V.ext,a2,V.fr.reblank V.nocells hb0 V.fr.hidL V.fr.freeL hmm,V.frn,V.nocells,V.nfa,V.hI,V.hS,V.new,V.neI,itI,a3,a4,a5,gs',?_,fun s'' hs''=>?_⟩
 ·have h1:g<s.gens.size:=(F0.mp hgs).1
  have h2:s.gens.size<=s₁.gens.size:=by rw [jt] at hgz;exact hgz
  show (s₁.setGen g gs').gens[g]? = some gs'
  unfold Shared.setGen
  simp [E8 h1 h2]
 ·have:=hkap s'' hs''
  rw [show ys.length - (j'+1)=k by omega]
  exact this
theorem iI.done {ja:Nat} {μ:Mu} {s:Shared} {Q:Option Value->Shared->Prop} {E:Value->Shared->Prop} (ok:C.Ok) (hq:lv.q=true) (hm:m<lv.n) (V:iI C lv P (pY P elt iter x px scope pos I cenv) σ N cenv m I ax a S g items ys f ρ0 μ0 s0 ys.length ja μ s)
  (hQ:∀ s',aX C lv P μ σ s'->aL P (fun b=>(b=I\/b=cenv.locals)\/s0.heap.objs.size<=b) s0 s'->oq s'.heap S ys f ja->Q none s'):wpAny (model C.prog C.w) P (pyNext (.ref a)) Q E s:=by
 obtain ⟨o1,o2,o3,o4⟩:=rC (B:=P.in1) (elt:=elt) (iter:=iter) (x:=x) (px:=px) (scope:=scope) (pos:=pos) (I:=I) (cenv:=cenv)
 have hR:=V.ready hq hm o1 o2 o3 (by rw [o4])
 obtain ⟨gs,hgs,hgo⟩:=V.gs
 rw [GB] at hgo
 have hr:=V.good.room
 refine ao (wpAny_pyNext_genexp (P:=fun n s₀ s₁=>n=0/\qF (pY P elt iter x px scope pos I cenv) cenv I s₀ s₁) (V.good.quiet hq) (ok.lim.keeps V.good.base) (by omega) V.gen hgs (hgo _ hR) (fun v s₁ gs' hv=>?_) fun s₁ hp h' hk'=>?_)
 ·exfalso
  obtain ⟨j',t,ej,it',_⟩:=hv;obtain ⟨o,ho,_,hd⟩:=it';obtain ⟨o2,ho2,_,hd2⟩:=V.it;have' ho3:(s.setGen g .running).heap.get? I=some o2:=ho2
  rw [ho3] at ho;cases ho
  rw [hd2] at hd
  have:=congrArg (fun d:Data=>match d with | .fields vs=>vs.toList | _=>[]) hd
  simp at this<;>omega
 ·intro hsz
  obtain ⟨a1,a2,a3,a4,a5⟩:=iI.after (gs':=.finished) rfl V o2 hp.2 hk' hsz;exact hQ _ a1 a2 a5
set_option tactic.hygienic true in
theorem iI.push {Bi:Around} {j:Nat} {μ:Mu} {s:Shared} {t:Tok} (hb0:cM N ρ0) (V:iI C lv P Bi σ N cenv m I ax a S g items ys f ρ0 μ0 s0 (j+1) j μ s):iI C lv P Bi σ N cenv m I ax a S g items ys f ρ0 μ0 s0 (j+1) (j+1) μ {s with heap:=s.heap.update S (FB (·.push (.str (f (ys.getD j "")) t)))}:=by
 obtain ⟨acc,c,hS,hz,hacc⟩:=V.acc
 have other:∀ b,b≠S->(s.heap.update S (FB (·.push (.str (f (ys.getD j "")) t)))).get? b=s.heap.get? b:=fun b hb=>GM _ _ (Ne.symm hb)
 have k:aL P (· = S) s {s with heap:=s.heap.update S (FB (·.push (.str (f (ys.getD j "")) t)))}:=⟨_,_,_,rfl,⟨Ec (Gj ..).symm,id⟩,fun b o hb e=>.inl ((other b hb).trans e)⟩
 have' hSfa:¬ FA P S:=fun q=>by
  obtain ⟨_,_,o,es,n,ho,hd⟩:=V.good.frs.fa q
  rw [hS] at ho;cases ho;cases hd
 obtain ⟨mm,hn,_⟩:=V.fr.vals
 have' hSL:cenv.locals≠S:=fun q=>by
  obtain ⟨o,es,n,ho,hd,_⟩:=hn
  rw [q,hS] at ho;cases ho;cases hd
 have' hSI:I≠S:=fun q=>by
  obtain ⟨o,vs,ho,hd⟩:=gb V.it
  rw [q,hS] at ho;cases ho;cases hd
 have' hSa:a≠S:=fun q=>by
  obtain ⟨o,nm,qn,ho,hc,hd,hsl⟩:=V.gen
  rw [q,hS] at ho;cases ho;cases hd
 have' hSx:ax≠S:=FG (E8 V.new.1 V.new.2)
 refine ⟨V.good.turn k (fun b hb=>hb▸V.hS.1) (fun b hb=>hb▸V.hS.2) fun b hf hb=>absurd (hb▸hf) hSfa,V.ext,V.kept.trans k fun d hd=>.inl (.inr (hd▸V.new.2)),V.fr.reblank V.nocells hb0 V.fr.hidL V.fr.freeL (hn.at' fun o e=>(other _ hSL).trans e),V.frn,V.nocells,V.nfa,V.hI,V.hS,V.new,V.neI,V.it.at fun o e=>(other _ hSI).trans e,V.hl.at fun o e=>(other _ hSx).trans e,?_,?_,V.gs⟩
 ·obtain ⟨o,nm,qn,ho,r⟩:=V.gen
  exact ⟨o,nm,qn,(other _ hSa).trans ho,r⟩
 ·refine ⟨_,_,FU _ hS rfl,by rw [KU,hz],fun i v hv=>?_⟩
  rw [Array.getElem?_push] at hv
  split at hv
  ·rename_i e;rw [hz] at e;subst e;cases hv;exact ⟨t,rfl⟩
  ·exact hacc i v hv
end
end
section
open Sem (wp)
noncomputable def kq (K:Frag) (c P:Addr):Prop:=c≠P/\∃ (o:Obj) (vs:Array Value) (file:Str) (tf:Tok) (flags:Int) (tg:Tok) (inF:Bool) (text:Int) (tt:Tok),K.lookup c=some o/\o.cls=.type "code" /\ vs[11]? = some (.ref P)/\o.data=.fields vs/\vs.getD 11 .none=.ref P/\vs.getD 18 .none=.str file tf /\
  vs.getD 7 .none=.int flags tg/\vs.getD 9 .none=.bool inF/\vs.getD 10 .none=.int text tt
section
variable {C:Cx} {lv:Lv} {σ:aC} {N:aF} {env:Env} {A:Around} {μ:Mu} {s:Shared} {ρ:aO} {x:Str} {px:Pos} {elt iter:Expr} {scope:Scope} {pos:Pos} {c P:Addr} {jp:Nat} {ys:List Str}
structure BB (C:Cx) (lv:Lv) (A:Around) (σ:aC) (N:aF) (env:Env) (ρ:aO) (μ:Mu) (s:Shared) (elt iter:Expr) (x:Str) (px:Pos) (scope:Scope) (pos:Pos) (ys:List Str) (I ax a g:Nat) (cenv:Env) (items:Array Value) (μ':Mu) (s':Shared):Prop where
 post:aS C lv A N env μ s ρ σ μ' s'
 sc:cenv.scope=scope
 glob:cenv.globals=Go
 blt:cenv.builtins=Hb
 cells:cenv.cells=[]
 frame:cenv.frame=some cenv.locals
 hI:I∈μ'.hid/\I∉μ'.foot
 hL:cenv.locals∈μ'.hid/\cenv.locals∉μ'.foot
 new:s.heap.objs.size<=I/\s.heap.objs.size<=cenv.locals/\s.heap.objs.size<=a
 neI:I≠cenv.locals
 neA:ax≠I
 ns:∃ mm,s'.heap.Ns cenv.locals mm
 it:s'.heap.IsListIter I ax 0
 hl:s'.heap.IsList ax items
 gen:s'.heap.IsGen a g
 gs:s'.gens[g]? = some (.fresh (vp elt iter x px scope pos I cenv))
 size:items.size=ys.length
 item:∀ (j:Nat) (v:Value),items[j]? = some v->∃ t:Tok,v=JS (ys.getD j "") t
theorem ww {α:Type} {l:List α} {i:Nat} {v:α} (h:l[i]? = some v):l.set i v=l:=by
 refine Ia fun j=>?_
 by_cases e:i=j
 ·subst e;rw [F9 (EL.mp h).1,h]
 ·rw [Fm e]
theorem iW {M:Model} {c P:Addr} {ps:Array Value} {qn:Str} {Q:Value->Shared->Prop} {E:Value->Shared->Prop} (hc:env.code=.ref c) (hok:s.heap.IsCode c P ps) (ht:s.heap.TableAt c P ps) (htr:TriplesOk ps.toList)
  (hQ:∀ code h' tk ps',Heap.ExtBut P s.heap h'->h'.TableAt c P ps'->TriplesOk ps'.toList->Q code {s with heap:=h',toks:=tk}):wpAny M A (genexprCode env pos qn scope) Q E s:=by
 cases hnf:codeAmong pos ps.toList with
 | some cv=>exact wpAny_genexprCode_hit hc hok hnf (hQ cv s.heap s.toks ps (Heap.ExtBut.refl _ _) ht htr)
 | none=>exact wpAny_genexprCodeX hc hok ht hnf fun c' h' tk hx zz zz hi zz hT zz=>hQ _ _ _ _ hx hT (by obtain ⟨_,_,_,_,_,_,_,_,_,_,_,_,_,_,_,_,_,_,_,h,_⟩:=hi;exact h)
theorem va {Q:Value->Shared->Prop} {E:Value->Shared->Prop} (ok:C.Ok) (G:aX C lv A μ σ s) (F:aM A N env μ ρ s.heap) (hcode:env.code=.ref c) (hst:kq C.K c P) (hjp:σ[jp]? = some (.code P)) (hjz:jp∉lv.fz)
  (hi:aG C lv N iter ρ σ (.dat (.list (ys.map .str))) ρ σ) (hclos:∀ env,LH scope env=pure []) (hco:scope.isCoroutine=false) (hkind:scope.kind=.function) (hcell:∀ y∈scope.names,y.2≠.cell)
  (h0:scope.names.lookup (".0" : Str)=some Ee.local) (hs:∀ x,genFold iter env x=pure x)
  (hQ:∀ I ax a g cenv items μ' s',BB C lv A σ N env ρ μ s elt iter x px scope pos ys I ax a g cenv items μ' s'->Q (.ref a) s'):wpAny (model C.prog C.w) A (eval (lz elt iter x px scope pos) env) Q E s:=by
 have hroom:=G.room
 refine wpAny_GeneratorExp_make hco (hclos env) hcell h0 hkind (by omega) ?_ hs
 refine hi A env μ s _ _ ok G F fun v μ1 s1 P1 hv=>?_
 obtain ⟨as,r⟩:=hv
 cases r using RL with
 | @list ax o vs n _ ho hc hd hr=>
  have ho':=Ez _ ho;have hl1:s1.heap.IsList ax vs:=⟨o,ho',hc,n,hd⟩;have' hax:ax<s1.heap.objs.size:=Ed ho';have hlen:vs.size=ys.length:=(a9 hr).trans (EF ..);refine Hn hl1 ?_;have' k12:aL A0 NoW s1 {s1 with heap:=s1.heap.push {cls:=.type "list_iterator",data:=.fields #[.ref ax,.int 0 0]}}:=bD _ s1.toks
  have P2:=aS.hide (l:=[s1.heap.objs.size]) P1.good P1.fr k12 fun b hb=>by rw [EJ.mp hb];exact ⟨EK _,by show _<(HY _ _).objs.size;rw [EU];exact E6 _⟩
  have it2:(s1.heap.push {cls:=.type "list_iterator",data:=.fields #[.ref ax,.int 0 0]}).IsListIter s1.heap.objs.size ax 0:=⟨_,ES _ rfl,rfl,rfl⟩;have hl2:(s1.heap.push {cls:=.type "list_iterator",data:=.fields #[.ref ax,.int 0 0]}).IsList ax vs:=hl1.at fun o e=>EM _ e
  have' hz2:(s1.heap.push {cls:=.type "list_iterator",data:=.fields #[.ref ax,.int 0 0]}).objs.size=s1.heap.objs.size+1:=EU ..;have hI:s1.heap.objs.size∈(μ1.hide [s1.heap.objs.size]).hid/\s1.heap.objs.size∉(μ1.hide [s1.heap.objs.size]).foot:=⟨EG.mpr (.inl (.head _)),fun q=>absurd (P1.good.lt _ (P1.good.sim.foot _ q)) (E5 _)⟩
  have' hnI:s.heap.objs.size<=s1.heap.objs.size:=P1.kept.le;have' P12:=P1.trans P2;generalize hII:s1.heap.objs.size=I at *
  generalize hs2:({s1 with heap:=s1.heap.push {cls:=.type "list_iterator",data:=.fields #[.ref ax,.int 0 0]}}:Shared)=s2 at *
  have' hs2h:s1.heap.push {cls:=.type "list_iterator",data:=.fields #[.ref ax,.int 0 0]}=s2.heap:=by rw [<- hs2]
  rw [hs2h] at it2 hl2 hz2
  generalize hμ2:μ1.hide [I]=μ2 at *
  have X2:=P2.good.inK ok;refine ⟨ok.lim.keeps P2.good.base,?_⟩;obtain ⟨hcP,oc,cvs,file,tf,flags,tg,inF,text,tt,c1,cc,cv,c2,c3,c4,c5,c6,c7⟩:=hst;have hjl:jp<μ2.objs.length:=by rw [P2.good.sim.len];exact (EL.mp hjp).1
  obtain ⟨p,hp⟩:∃ p,μ2.objs[jp]? = some p:=⟨_,Eb hjl⟩;obtain ⟨e1,e2,ps,hop,htr⟩:=P2.good.sim.rep jp p _ hp hjp;obtain ⟨op,hopd,hope⟩:∃ op:Obj,op.data=.fields ps/\op={cls:=.none,data:=.fields ps}:=⟨_,rfl,rfl⟩
  rw [<- hope] at hop
  have' hcodeok:s2.heap.IsCode c P ps:=⟨oc,cvs,file,tf,flags,tg,inF,text,tt,op,X2 _ _ c1,c2,c3,c4,c5,c6,c7,e2▸hop,hopd,htr,hcP⟩;refine ao (iW hcode hcodeok ⟨⟨oc,cvs,X2 _ _ c1,cc,c2,cv⟩,by rw [<- hope,<- e2];exact hop⟩ htr fun code h3 tk3 ps3 hext hcd3 htr3 hsz3=>?_)
  have k23:aL A (·∈p.2) s2 {s2 with heap:=h3,toks:=tk3}:=⟨h3,_,tk3,rfl,⟨hsz3,id⟩,fun b o hb e=>.inl (hext b o (fun q=>hb (by rw [e1,e2,q];exact .head _)) e)⟩
  have P3:aS C lv A N env μ2 s2 ρ σ μ2 {s2 with heap:=h3,toks:=tk3}:=by
   have' w:=aS.write P2.good P2.fr hp hjz k23 (o':=.code P) ⟨e1,e2,ps3,e2▸hcd3.2,htr3⟩
   rwa [ww hjp] at w
  have' hPI:P≠I:=fun q=>by
   obtain ⟨o',ho',_,hd'⟩:=it2;have hPf:P∈μ2.foot:=aj (EN hp) (by rw [e1,e2];exact .head _)
   exact hI.2 (q▸hPf)
  have it3:h3.IsListIter I ax 0:=it2.at fun o e=>hext I o (Ne.symm hPI) e
  have' hop':s2.heap.get? P=some op:=e2▸hop;have' haxP:ax≠P:=fun q=>by
   obtain ⟨o',ho',_,n',hd'⟩:=hl2
   rw [q,hop'] at ho';cases ho';rw [hopd] at hd';cases hd'
  have hl3:h3.IsList ax vs:=hl2.at fun o e=>hext ax o haxP e
  have P13:=P12.trans P3;have hI3:I<h3.objs.size:=by obtain ⟨_,h,_⟩:=it3;exact Ed h
  generalize hs3:({s2 with heap:=h3,toks:=tk3}:Shared)=s3 at *
  have' hs3h:h3=s3.heap:=by rw [<- hs3]
  rw [hs3h] at it3 hl3 hI3
  have X3:=P3.good.inK ok
  rw [F.glob,F.blt]
  obtain ⟨bm,ob,BM⟩:=ok.bmod;refine wpAny_builtinsFor (BM.ns.keeps P3.good.base) BM.name BM.ne (P3.good.base _ _ BM.obj) BM.cls BM.dict BM.data fun h' hn hsb=>?_
  have hz':h'.objs.size=s3.heap.objs.size+1:=by rw [hsb.1,EU]
  have keep':∀ b o,s3.heap.get? b=some o->h'.get? b=some o:=fun b o e=>hsb.extBut b o (FG (Ed e)) (EM _ e)
  generalize hs5:({s3 with gens:=_,toks:=_,heap:=_}:Shared)=s5;have hs5h:s5.heap=h'.push {cls:=.type "generator",data:=.fields #[.int s3.gens.size 0,.str "<genexpr>" (s3.toks+1),.str (env.qual ++ "<genexpr>") (s3.toks+1+1)]}:=by rw [<- hs5]
  have' hs5g:s5.gens=s3.gens.push (.fresh (vp elt iter x px scope pos I (genEnv scope [] s3.heap.objs.size code Hb env))):=by rw [<- hs5]
  have keep5:∀ b o,s3.heap.get? b=some o->s5.heap.get? b=some o:=fun b o e=>by rw [hs5h];exact EM _ (keep' b o e)
  have hz5:s5.heap.objs.size=s3.heap.objs.size+2:=by rw [hs5h,EU,hz']
  have' k35:aL A0 NoW s3 s5:=by
   rw [<- hs5]
   exact ⟨_,_,_,rfl,⟨by rw [EU,hz'];omega,fun q=>q.push rfl⟩,fun b o zz e=>.inl (EM _ (keep' b o e))⟩
  have' P5:=aS.hide (l:=[s3.heap.objs.size,h'.objs.size]) P3.good P3.fr k35 fun b hb=>by
   rcases EV.mp hb with rfl | hb
   ·exact ⟨EK _,by rw [hz5];exact Jy (by decide)⟩
   ·rw [EJ.mp hb,hz',hz5];exact ⟨Ej _,E6 _⟩
  have hsz13:s.heap.objs.size<=s3.heap.objs.size:=P13.kept.le;refine hQ I ax h'.objs.size s3.gens.size (genEnv scope [] s3.heap.objs.size code Hb env) vs _ s5 ⟨P13.trans P5,rfl,F.glob,rfl,rfl,rfl,⟨EG.mpr (.inr hI.1),hI.2⟩,⟨EG.mpr (.inl (.head _)),fun q=>?_⟩,⟨hnI,hsz13,by rw [hz'];exact Fl hsz13⟩,FG hI3,FG hax,?_,it3.at fun o e=>keep5 _ o e,hl3.at fun o e=>keep5 _ o e,?_,?_,hlen,fun j v hv=>?_⟩
  ·exact absurd (P3.good.lt _ (P3.good.sim.foot _ q)) (E5 _)
  ·refine ⟨fun y=>if y=".0" then some (.ref I) else none,?_⟩
   rw [hs5h]
   exact hn.push _
  ·rw [hs5h]
   exact ⟨_,_,_,ES _ rfl,rfl,rfl,rfl⟩
  ·rw [hs5g];exact Array.getElem?_push_size ..
  ·have hj:j<ys.length:=by rw [<- hlen];exact (F0.mp hv).1
   obtain ⟨bs,rv⟩:=bh hr j v (.str (ys.getD j "")) (by simpa using hv) (by simp [GN,hj])
   cases rv using RS with
   | str t=>exact ⟨t,rfl⟩
end
end
section
open Sem (wp)
open PySem.Builtin PySem.Builtin.Str
theorem wX {M:Model} {h:Heap} {a:Addr} {o:Obj} {T:Value} (ho:h.get? a=some o) (hc:o.cls=T):Looks M h (typeOf (.ref a)) T:=hc▸(I7 (part:=none) ho).andThen .now
theorem xi {h:Heap} {S:Addr} {ys:List Str} {f:Str->Str} (x:oq h S ys f ys.length):∃ (l:List (Str×Tok)) (c:Nat),h.get? S=some (dq (Ko l).toArray c)/\l.map (·.1)=ys.map f:=by
 obtain ⟨acc,c,ho,hz,hv⟩:=x
 obtain ⟨l,hl⟩:=exists_strValues acc.toList fun v hm=>by
  obtain ⟨j,hj,rfl⟩:=Array.mem_iff_getElem.mp (Array.mem_toList_iff.mp hm);obtain ⟨t,e⟩:=hv j _ (HF hj);exact ⟨_,t,e⟩
 refine ⟨l,c,?_,?_⟩
 ·rw [hl,Array.toArray_toList];exact ho
 ·refine Ia fun i=>?_
  have hlen:l.length=ys.length:=by
   have h1:(Ko l).length=l.length:=by unfold Ko;exact EF ..
   have' h2:acc.toList.length=acc.size:=FQ
   rw [<- h1,hl,h2,hz]
  by_cases hi:i<ys.length
  ·have h1:l[i]? = some (l[i]'(by omega)):=by simp
   have' h2:acc[i]? = some (.str (l[i]'(by omega)).1 (l[i]'(by omega)).2):=by
    rw [<- Ii,<- hl]
    unfold Ko
    rw [Em,h1];rfl
   obtain ⟨t,e⟩:=hv i _ h2
   rw [Em,h1,Em]
   have:(l[i]'(by omega)).1=f (ys.getD i ""):=by injection e
   simp [this,GN,hi]
  ·rw [Ih (by simp;omega),Ih (by simp;omega)]
section
variable {C:Cx} {lv:Lv} {σ:aC} {N:aF} {env:Env} {A:Around} {μ μ1:Mu} {s s1:Shared} {ρ:aO} {x:Str} {px:Pos} {elt iter:Expr} {scope:Scope} {pos:Pos} {ys:List Str} {f:Str->Str} {I ax a g:Nat} {cenv:Env} {items:Array Value} {ρ0:aO} {ρ1:Str->aO} {m:Nat}
theorem xU {sep:Str} {t:Tok} {Q:Value->Shared->Prop} {E:Value->Shared->Prop} (ok:C.Ok) (hq:lv.q=true) (hm:m+2<=lv.n) (G:aX C lv A μ σ s) (F:aM A N env μ ρ s.heap) (V:BB C lv A σ N env ρ μ s elt iter x px scope pos ys I ax a g cenv items μ1 s1) (okn:dc scope.names) (hkind:scope.kind=.function) (hco:scope.isCoroutine=false)
  (hplain:∀ p∈scope.names,p.2≠.cell/\p.2≠.free) (hbl:cM scope.names ρ0) (hst:∀ y,bS scope.names ρ0 x .local (.dat (.str y)) (ρ1 y)) (hsub:∀ y,Sub (ρ1 y) ρ0)
  (helt:∀ y∈ys,aG C ⟨true,m,EQ σ.length⟩ scope.names elt (ρ1 y) σ (.dat (.str (f y))) (ρ1 y) σ) (hys:ys.length<=1000) (hjoin:JoinOk sep (ys.map f)=true)
  (hQ:∀ v μ' s',aS C lv A N env μ s ρ σ μ' s'->af μ' s'.heap (.dat (.str (Ib sep (ys.map f)))) v->Q v s'):wpAny (model C.prog C.w) A (call (.builtin "str.join") [.str sep t,.ref a]) Q E s1:=by
 have' hroom:=V.post.good.room
 have' hunits:=V.post.good.units
 have hP:(A.in1.in1:Around).frames=A.frames:=rfl
 have X:xQ C σ scope.names cenv m x elt I ax items ys f ρ0 ρ1:=⟨ok,by rw [V.sc];exact hco,V.frame,V.neI,V.neA,V.size,V.item,hst,hsub,helt,fun y hy=>(hplain _ hy).1 rfl,hbl⟩
 have k0:=V.post.kept
 have szA:s.heap.objs.size<=s1.heap.objs.size:=k0.le
 obtain ⟨oa,nm,qn,hoa,hca,hda,hsla⟩:=V.gen
 have ha:a<s1.heap.objs.size:=Ed hoa
 refine Fi (GX PySem.F.slot_str_join.plain PySem.F.entry_str_join (PySem.F.slot_str_join.check _ _ _ _ _ _ _ _ (LJ _ _ _) (PySem.F.args_str_join_2 _ _) ?_))
 rw [join_tree_other]
 refine ED (I8 (V.gen.typeIs) ?_)
 show wpAny _ A.in1 ((pyIter (.ref a)).tryCatch _ >>= fun it=>Lr it >>= fun items=>joinTail sep items) _ _ s1
 refine ED (wpAny_tryCatch (wpAny_pyIter_gen V.gen ?_))
 have G1:aX C ⟨true,m+1,lv.fz⟩ A.in1.in1 μ1 σ s1:=V.post.good.around (fun zz=>V.post.good.quiet hq) rfl (by show A.depth+_+_<_;dsimp only;omega) (by show A.units+1+1+_+_<_;dsimp only;omega) ⟨V.post.good.frs.all⟩
 have' hLs:∃ mm,s1.heap.Ns cenv.locals mm:=V.ns
 have hLlt:cenv.locals<s1.heap.objs.size:=let ⟨_,h⟩:=hLs;h.lt
 have nfa:¬ FA A.in1.in1 cenv.locals:=fun q=>by
  have' h1:=(G.frs.fa (b:=cenv.locals) q).1;exact absurd (G.lt _ h1) (E3.mpr V.new.2.1)
 have hkinds:∀ p∈scope.names,cenv.kindOf p.1=some p.2:=fun p hp=>by
  show cenv.scope.names.lookup p.1=some p.2
  rw [V.sc];exact dR okn.nodup hp
 have hfe:∀ elt iter:Expr,∃ L,cenv.frame=some L/\FA (pY A.in1.in1 elt iter x px scope pos I cenv) L:=fun elt iter=>by
  obtain ⟨l,e,_⟩:=G1.frs.all;exact ⟨_,V.frame,cenv :: l,by
   obtain ⟨_,o2,_,_⟩:=rC (B:=A.in1.in1.in1) (elt:=elt) (iter:=iter) (x:=x) (px:=px) (scope:=scope) (pos:=pos) (I:=I) (cenv:=cenv)
   rw [o2,show A.in1.in1.in1.frames=A.in1.in1.frames from rfl,e];rfl,cenv,.head _,V.frame⟩
 have hnl:∀ h',(∀ b o,s1.heap.get? b=some o->h'.get? b=some o)->Looks (model C.prog C.w) h' (typeOf (.ref a)) (.type "generator"):=fun h' hk=>wX (hk a oa hoa) hca
 refine ED (pF (J:=a) (n:=ys.length) (ty:=.type "generator")
  (Inv:=fun i s'=>∃ μi,iI C ⟨true,m+1,lv.fz⟩ A.in1.in1 (pY A.in1.in1 elt iter x px scope pos I cenv) σ scope.names cenv m I ax a s1.heap.objs.size g items ys f ρ0 μ1 s1 i i μi s')
  (Mid:=fun i v s'=>∃ t,v=JS (f (ys.getD i "")) t/\i<ys.length/\∃ μi,iI C ⟨true,m+1,lv.fz⟩ A.in1.in1 (pY A.in1.in1 elt iter x px scope pos I cenv) σ scope.names cenv m I ax a s1.heap.objs.size g items ys f ρ0 μ1 s1 (i+1) i μi s')
  (Fin:=fun s'=>∃ μi,aX C ⟨true,m+1,lv.fz⟩ A.in1.in1 μi σ s'/\Ext μ1 μi s1.heap.objs.size/\aL A.in1.in1 (fun b=>(b=I\/b=cenv.locals)\/s1.heap.objs.size<=b) s1 s'/\oq s'.heap s1.heap.objs.size ys f ys.length)
  ha ha (hnl _ fun zz zz e=>e) (by decide) (by decide) ?hself ?hn1 ?hn2 ?hinv ?hs ?hitem ?hmid ?hdone ?hfin)
 case hself=>
  rintro s0 Q E rfl h
  exact wpAny_pyIter_gen (V.gen.push _) (h _ ⟨s1.toks,rfl⟩)
 case hn1=>intro h' hk;exact (hnl h' hk).andThen (Fd PySem.F.gen_no_len)
 case hn2=>intro h' hk;exact (hnl h' hk).andThen (Fd PySem.F.gen_no_hint)
 case hinv=>
  intro tk h' hS hz hk;have k1:aL A0 NoW s1 {s1 with heap:=h',toks:=tk}:=ab (by rw [hz];exact Ej _) hk
  have G2:=G1.hide (l:=[s1.heap.objs.size]) k1 fun b hb=>by rw [EJ.mp hb];exact ⟨EK _,by show _<h'.objs.size;rw [hz];exact E6 _⟩
  obtain ⟨mm,hmm⟩:=V.ns;have hgs:s1.gens[g]? = _:=V.gs;refine ⟨_,⟨G2,fW fun b hb=>by rw [EJ.mp hb];exact EK _,k1.lift,⟨by rw [V.sc];exact hkind,V.glob,V.blt,okn.nodup,okn.plain,fun p hp=>.inl (hkinds p hp),EG.mpr (.inr V.hL.1),V.hL.2,fun p hp hc=>?_,(fun p hp=>by rw [V.cells] at hp;cases hp),(fun p hp=>by rw [V.cells] at hp;cases hp),hfe elt iter,mm,hmm.keeps hk,hbl.vars⟩,V.frame,V.cells,nfa,⟨EG.mpr (.inr V.hI.1),V.hI.2⟩,⟨EG.mpr (.inl (.head _)),fun q=>absurd (G1.lt _ (G1.sim.foot _ q)) (E5 _)⟩,⟨?_,EK _⟩,V.neI,V.it.at fun o e=>hk _ o e,V.hl.at fun o e=>hk _ o e,V.gen.keeps hk,⟨_,_,hS,rfl,fun i v hv=>by simp at hv⟩,_,hgs,fun s'' hR=>⟨rfl,uq (B:=A.in1.in1.in1) (iter:=iter) (px:=px) (scope:=scope) (pos:=pos) X (G1.quiet rfl) s'' hR⟩⟩⟩
  ·rcases hc with hc | hc
   ·exact absurd hc (hplain p hp).1
   ·exact absurd hc (hplain p hp).2
  ·obtain ⟨o,ho,_⟩:=V.hl
   exact Ed ho
 case hs=>
  rintro i v s' ⟨t,rfl,hi,μi,W⟩
  obtain ⟨acc,c,hS,hz,_⟩:=W.acc;exact ⟨acc,c,hS,by omega⟩
 case hitem=>
  rintro i s' Q E hi ⟨μi,W⟩ h
  exact W.item ok hbl rfl (E6 _) hi fun t s'' W'=>h _ s'' ⟨t,rfl,hi,μi,W'⟩
 case hmid=>
  rintro i v s' ⟨t,rfl,hi,μi,W⟩
  exact ⟨μi,W.push hbl⟩
 case hdone=>
  rintro s' Q E ⟨μi,W⟩ h
  exact W.done ok rfl (E6 _) fun s'' G' k' a'=>h s'' ⟨μi,G',W.ext,k',a'⟩
 case hfin=>
  rintro s' ⟨μi,G',x',k',a'⟩
  obtain ⟨l,c,hS,hl⟩:=xi a';refine ⟨_,c,hS,?_⟩;have hok:=hjoin
  rw [<- hl] at hok
  have hok':=hok;unfold JoinOk at hok'
  rw [GE] at hok'
  have' g0:Gives (joinTail sep (Ko l)) (joinMade sep l):=by
   have g0:=gives_joinTail sep l hok'
   cases l with
   | nil=>exact g0
   | cons p r=>cases r with
    | nil=>exact g0
    | cons q r'=>exact g0
  refine g0 C.prog C.w A (wants Q E) s' (post_join l ⟨joinFit_length hok',fun t' tk=>?_⟩)
  have' G2:aX C lv A μi σ s':=G'.around (fun h=>V.post.good.quiet h) rfl hroom hunits ⟨G'.frs.all⟩
  have k2:aL A (fun b=>(b=I\/b=cenv.locals)\/s1.heap.objs.size<=b) s1 s':=k'.frames fun b hb=>.inl hb
  have' F2:aM A N env μi ρ s'.heap:=V.post.fr.ext x' k2 (fun b hb=>?_) (fun q=>?_) (fun p hp q=>?_)
  ·have P2:aS C lv A N env μ s ρ σ μi s':=⟨V.post.fz0,G2,F2,V.post.ext.trans x' szA,k0.trans k2 fun d hd=>.inr ?_⟩
   ·exact hQ _ μi _ (P2.trans (aS.grow P2.good P2.fr (ae tk))) ⟨[],hl▸.str _ t'⟩
   ·rcases hd with (rfl | rfl) | hd
    ·exact V.new.1
    ·exact V.new.2.1
    ·exact EH szA hd
  ·rcases hb with ((rfl | rfl) | hb) | hb
   ·exact .inl V.hI.1
   ·exact .inl V.hL.1
   ·exact .inr hb
   ·exact .inl (V.post.good.frs.fa hb).1
  ·have hlt:env.locals<s.heap.objs.size:=let ⟨_,h,_⟩:=F.vals;h.lt
   rcases q with (q | q) | q
   ·exact absurd (q▸V.new.1) (Il.mpr hlt)
   ·exact absurd (q▸V.new.2.1) (Il.mpr hlt)
   ·exact absurd (EH szA q) (Il.mpr hlt)
  ·obtain ⟨_,_,_,v,o,ho,_⟩:=F.cells p hp
   have hlt:p.2<s.heap.objs.size:=Ed ho
   rcases q with (q | q) | q
   ·exact absurd (q▸V.new.1) (Il.mpr hlt)
   ·exact absurd (q▸V.new.2.1) (Il.mpr hlt)
   ·exact absurd (EH szA q) (Il.mpr hlt)
end
end
section
variable {C:Cx} {lv:Lv} {σ:aC} {N:aF} {env:Env} {A:Around} {μ:Mu} {s:Shared} {ρ:aO} {x:Str} {px:Pos} {elt iter:Expr} {scope:Scope} {gpos:Pos} {ys:List Str} {f:Str->Str} {ρ0:aO} {ρ1:Str->aO} {m:Nat} {c P:Addr} {jp:Nat}
structure BA (scope:Scope) (x:Str) (iter:Expr) (ρ0:aO) (ρ1:Str->aO):Prop where
 okn:dc scope.names
 clos:∀ env,LH scope env=pure []
 co:scope.isCoroutine=false
 kind:scope.kind=.function
 plain:∀ p∈scope.names,p.2≠.cell/\p.2≠.free
 h0:scope.names.lookup (".0" : Str)=some Ee.local
 fold:∀ env x,genFold iter env x=pure x
 bl:cM scope.names ρ0
 st:∀ y,bS scope.names ρ0 x .local (.dat (.str y)) (ρ1 y)
 sub:∀ y,Sub (ρ1 y) ρ0
theorem vW {sep:Str} {k0:Nat} {p0 apos pos:Pos} {Q:Value->Shared->Prop} {E:Value->Shared->Prop} (ok:C.Ok) (hq:lv.q=true) (hm:m+2<=lv.n) (G:aX C lv A μ σ s) (F:aM A N env μ ρ s.heap) (hcode:env.code=.ref c) (hst:kq C.K c P) (hjp:σ[jp]? = some (.code P)) (hjz:jp∉lv.fz)
  (hi:aG C lv N iter ρ σ (.dat (.list (ys.map .str))) ρ σ) (gs:BA scope x iter ρ0 ρ1)
  (helt:∀ y∈ys,aG C ⟨true,m,EQ σ.length⟩ scope.names elt (ρ1 y) σ (.dat (.str (f y))) (ρ1 y) σ) (hys:ys.length<=1000) (hjoin:JoinOk sep (ys.map f)=true)
  (hbase:HR (.Constant (.str sep) k0 p0) "join" env (eval (.Constant (.str sep) k0 p0) env)=eval (.Constant (.str sep) k0 p0) env)
  (hfew:((backTo pos (Fy [lz elt iter x px scope gpos] env)).all (fun x=>!x.1) && (HE pos (GH [] env)).all (fun x=>x.1.isSome)
   && decide ([lz elt iter x px scope gpos].length+([]:List IH).length+(if ([]:List IH).isEmpty then 0 else 1)<30))=true) (hline:(apos.endLine==pos.line)=true)
  (hQ:∀ v μ' s',aS C lv A N env μ s ρ σ μ' s'->af μ' s'.heap (.dat (.str (Ib sep (ys.map f)))) v->Q v s') :
  wpAny (model C.prog C.w) A (eval (.Call (.Attribute (.Constant (.str sep) k0 p0) "join" apos) [lz elt iter x px scope gpos] [] pos) env) Q E s:=by
 refine @He _ _ _ _ _ _ _ _ _ _ _ _ _ hbase hfew hline rfl (@Hc _ _ _ _ _ _ _ _ _ ?_)
 have P0:=aS.grow G F (ae (s:=s) (s.toks+1))
 refine ⟨"str", "str.join",PySem.F.plainAttrs_str,PySem.F.slot_str_join,PySem.F.type_str_join,rfl,(fun b hb=>by cases hb),?_⟩
 refine Fx (bg (es:=[lz elt iter x px scope gpos]) rfl) ?_
 rw [a7 (by rfl)]
 refine FS (FW (va ok P0.good P0.fr hcode hst hjp hjz hi gs.clos gs.co gs.kind (fun y hy=>(gs.plain y hy).1) gs.h0 (gs.fold env) fun I ax a g cenv items μ' s' V=>?_))
 refine Fs ?_
 exact xU ok hq hm P0.good P0.fr V gs.okn gs.kind gs.co gs.plain gs.bl gs.st gs.sub helt hys hjoin fun v μ2 s2 P2 r=>hQ v μ2 s2 (P0.trans P2) r
end
theorem BF {n:Nat}:(n:Int)+1=((n+1:Nat):Int):=rfl
theorem BK {n:Nat}:(OfNat.ofNat n:Int)=((OfNat.ofNat n:Nat):Int):=rfl
theorem BY {n:Nat}:(n:Int)+2=((n+2:Nat):Int):=rfl
noncomputable def Kw (P:Params):Frag:=hd.heap_1 P
structure bH (C:Cx):Prop where
 ok:C.Ok
 prog:C.prog=Ew.prog
 K:C.K=Kw C.w.params
noncomputable def zi (P:Params):Array GT:=match (Kw P).lookup 3 with
 | some ⟨_,_,.dict es _,_⟩=>es
 | _=>#[]
noncomputable def vi (P:Params) (x:Str):Option Value:=nsFind (zi P) x
theorem xq (P:Params):∃ c d n sl,(Kw P).lookup 3=some ⟨c,d,.dict (zi P) n,sl⟩:=⟨_,_,_,_,rfl⟩
theorem bH.look {C:Cx} (H:bH C) {a:Addr} {o:Obj} (e:(Kw C.w.params).lookup a=some o):C.K.lookup a=some o:=by rw [H.K];exact e
theorem bH.code {C:Cx} (H:bH C) {v:Value} {q:Str} (e:codeIn (Kw C.w.params) v q=true):codeIn C.K v q=true:=by rw [H.K];exact e
theorem bH.glob {C:Cx} (H:bH C) (x:Str):C.mg x=vi C.w.params x:=by
 obtain ⟨c,d,n,sl,e⟩:=xq C.w.params
 obtain ⟨o,es,ep,ho,hd,_,hf⟩:=H.ok.g
 have h3:=H.ok.K 3 _ (by rw [H.K];exact e)
 have' hm:Go=3:=rfl
 rw [hm,h3] at ho
 cases ho
 cases hd
 exact (hf x).symm
theorem gl {P:Params}:([EE "_wall",EE "_NodeInfo",EE "CycleError",EE "TopologicalSorter",EE "_whence",EE "_index",EE "UnsupportedOperation",EE "BytesIO",EE "StringIO",EE "shlex",EE "split",EE "join_shlex",EE "_find_unsafe",EE "quote",EE "_deduplicate",EE "_deduplicate_unhashable",EE "_compare_args_orderless",EE "_law_cells",EE "_law_words",EE "_law_bonds",EE "_law_sorter",EE "_law_rounds",EE "_law_one_by_one",EE "_law_runs",EE "_law_is_stepped",EE "_law_is_least",EE "_law_changed",EE "_law_alike",EE "_law_text",EE "_law_read",EE "_law_holds",EE "_NODE_OUT",EE "_NODE_DONE",EE "deque",EE "range",EE "len",EE "min",EE "abs",EE "sorted",EE "zip",EE "isinstance",EE "iter",EE "tuple",EE "list",EE "set",EE "dict",EE "bool",EE "int",EE "str",EE "type",EE "bytes",EE "object",EE "StopIteration",EE "ValueError",EE "TypeError"]:List Str).map (vi P)=[some (.ref 44),some (.ref 63),some (.ref 78),some (.ref 160),some (.ref 176),some (.ref 183),some (.ref 193),some (.ref 470),some (.ref 717),some (.ref 852),some (.ref 864),some (.ref 871),some (.ref 872),some (.ref 879),some (.ref 887),some (.ref 894),some (.ref 901),some (.ref 908),some (.ref 913),some (.ref 920),some (.ref 925),some (.ref 930),some (.ref 935),some (.ref 940),some (.ref 945),some (.ref 950),some (.ref 957),some (.ref 962),some (.ref 967),some (.ref 972),some (.ref 977),some (.int (-1) 334),some (.int (-2) 337),some (.type "collections.deque"),none,none,none,none,none,none,none,none,none,none,none,none,none,none,none,none,none,none,none,none,none]:=by kernel_rfl
theorem bl:([EE "range",EE "len",EE "min",EE "abs",EE "sorted",EE "zip",EE "isinstance",EE "iter",EE "tuple",EE "list",EE "set",EE "dict",EE "bool",EE "int",EE "str",EE "type",EE "bytes",EE "object",EE "StopIteration",EE "ValueError",EE "TypeError"]:List Str).map bootBuiltins=[some (.type "range"),some (.builtin "len"),some (.builtin "min"),some (.builtin "abs"),some (.builtin "sorted"),some (.type "zip"),some (.builtin "isinstance"),some (.builtin "iter"),some (.type "tuple"),some (.type "list"),some (.type "set"),some (.type "dict"),some (.type "bool"),some (.type "int"),some (.type "str"),some (.type "type"),some (.type "bytes"),some (.type "object"),some (.type "StopIteration"),some (.type "ValueError"),some (.type "TypeError")]:=by kernel_rfl
theorem bn:([EE "range",EE "len",EE "min",EE "abs",EE "sorted",EE "zip",EE "isinstance",EE "iter",EE "tuple",EE "list",EE "set",EE "dict",EE "bool",EE "int",EE "str",EE "type",EE "bytes",EE "object",EE "StopIteration",EE "ValueError",EE "TypeError"]:List Str).map (fun x=>x==EE "__name__")=[false,false,false,false,false,false,false,false,false,false,false,false,false,false,false,false,false,false,false,false,false]:=by kernel_rfl
theorem aQ {α β:Type} {f:α->β} {l:List α} {r:List β} (e:l.map f=r) {i:Nat} {x:α} {y:β} (h1:l[i]? = some x) (h2:r[i]? = some y):f x=y:=by
 rw [<- e,Em,h1] at h2
 exact GF.inj h2
section
variable {C:Cx} (H:bH C)
include H
theorem rh:C.mg (EE "_NodeInfo")=some (.ref 63):=(H.glob _).trans (aQ gl (i:=1) rfl rfl)
theorem iJ:C.mg (EE "TopologicalSorter")=some (.ref 160):=(H.glob _).trans (aQ gl (i:=3) rfl rfl)
theorem yq:C.mg (EE "_index")=some (.ref 183):=(H.glob _).trans (aQ gl (i:=5) rfl rfl)
theorem tT:C.mg (EE "BytesIO")=some (.ref 470):=(H.glob _).trans (aQ gl (i:=7) rfl rfl)
theorem sB:C.mg (EE "StringIO")=some (.ref 717):=(H.glob _).trans (aQ gl (i:=8) rfl rfl)
theorem zG:C.mg (EE "shlex")=some (.ref 852):=(H.glob _).trans (aQ gl (i:=9) rfl rfl)
theorem zf:C.mg (EE "split")=some (.ref 864):=(H.glob _).trans (aQ gl (i:=10) rfl rfl)
theorem nB:C.mg (EE "join_shlex")=some (.ref 871):=(H.glob _).trans (aQ gl (i:=11) rfl rfl)
theorem mB:C.mg (EE "_find_unsafe")=some (.ref 872):=(H.glob _).trans (aQ gl (i:=12) rfl rfl)
theorem zg:C.mg (EE "quote")=some (.ref 879):=(H.glob _).trans (aQ gl (i:=13) rfl rfl)
theorem l6:C.mg (EE "_deduplicate")=some (.ref 887):=(H.glob _).trans (aQ gl (i:=14) rfl rfl)
theorem fC:C.mg (EE "_deduplicate_unhashable")=some (.ref 894):=(H.glob _).trans (aQ gl (i:=15) rfl rfl)
theorem fF:C.mg (EE "_compare_args_orderless")=some (.ref 901):=(H.glob _).trans (aQ gl (i:=16) rfl rfl)
theorem pu:C.mg (EE "_law_cells")=some (.ref 908):=(H.glob _).trans (aQ gl (i:=17) rfl rfl)
theorem qB:C.mg (EE "_law_words")=some (.ref 913):=(H.glob _).trans (aQ gl (i:=18) rfl rfl)
theorem qX:C.mg (EE "_law_bonds")=some (.ref 920):=(H.glob _).trans (aQ gl (i:=19) rfl rfl)
theorem nW:C.mg (EE "_law_sorter")=some (.ref 925):=(H.glob _).trans (aQ gl (i:=20) rfl rfl)
theorem oN:C.mg (EE "_law_rounds")=some (.ref 930):=(H.glob _).trans (aQ gl (i:=21) rfl rfl)
theorem j4:C.mg (EE "_law_one_by_one")=some (.ref 935):=(H.glob _).trans (aQ gl (i:=22) rfl rfl)
theorem qy:C.mg (EE "_law_runs")=some (.ref 940):=(H.glob _).trans (aQ gl (i:=23) rfl rfl)
theorem jZ:C.mg (EE "_law_is_stepped")=some (.ref 945):=(H.glob _).trans (aQ gl (i:=24) rfl rfl)
theorem lK:C.mg (EE "_law_is_least")=some (.ref 950):=(H.glob _).trans (aQ gl (i:=25) rfl rfl)
theorem l4:C.mg (EE "_law_changed")=some (.ref 957):=(H.glob _).trans (aQ gl (i:=26) rfl rfl)
theorem pX:C.mg (EE "_law_alike")=some (.ref 962):=(H.glob _).trans (aQ gl (i:=27) rfl rfl)
theorem sF:C.mg (EE "_law_text")=some (.ref 967):=(H.glob _).trans (aQ gl (i:=28) rfl rfl)
theorem qp:C.mg (EE "_law_read")=some (.ref 972):=(H.glob _).trans (aQ gl (i:=29) rfl rfl)
theorem p8:C.mg (EE "_law_holds")=some (.ref 977):=(H.glob _).trans (aQ gl (i:=30) rfl rfl)
theorem qw:C.mg (EE "_NODE_OUT")=some (.int (-1) 334):=(H.glob _).trans (aQ gl (i:=31) rfl rfl)
theorem oi:C.mg (EE "_NODE_DONE")=some (.int (-2) 337):=(H.glob _).trans (aQ gl (i:=32) rfl rfl)
theorem y6:C.mg (EE "deque")=some (.type "collections.deque"):=(H.glob _).trans (aQ gl (i:=33) rfl rfl)
theorem zJ:C.mg (EE "range")=none:=(H.glob _).trans (aQ gl (i:=34) rfl rfl)
theorem zQ:C.mb (EE "range")=some (.type "range"):=(H.ok.blt _ (by have:=aQ bn (i:=0) rfl rfl;exact beq_eq_false_iff_ne.mp this)).trans (aQ bl (i:=0) rfl rfl)
theorem Bl:C.mg (EE "len")=none:=(H.glob _).trans (aQ gl (i:=35) rfl rfl)
theorem BV:C.mb (EE "len")=some (.builtin "len"):=(H.ok.blt _ (by have:=aQ bn (i:=1) rfl rfl;exact beq_eq_false_iff_ne.mp this)).trans (aQ bl (i:=1) rfl rfl)
theorem B9:C.mg (EE "min")=none:=(H.glob _).trans (aQ gl (i:=36) rfl rfl)
theorem BN:C.mb (EE "min")=some (.builtin "min"):=(H.ok.blt _ (by have:=aQ bn (i:=2) rfl rfl;exact beq_eq_false_iff_ne.mp this)).trans (aQ bl (i:=2) rfl rfl)
theorem Bg:C.mg (EE "abs")=none:=(H.glob _).trans (aQ gl (i:=37) rfl rfl)
theorem BJ:C.mb (EE "abs")=some (.builtin "abs"):=(H.ok.blt _ (by have:=aQ bn (i:=3) rfl rfl;exact beq_eq_false_iff_ne.mp this)).trans (aQ bl (i:=3) rfl rfl)
theorem xN:C.mg (EE "sorted")=none:=(H.glob _).trans (aQ gl (i:=38) rfl rfl)
theorem w9:C.mb (EE "sorted")=some (.builtin "sorted"):=(H.ok.blt _ (by have:=aQ bn (i:=4) rfl rfl;exact beq_eq_false_iff_ne.mp this)).trans (aQ bl (i:=4) rfl rfl)
theorem Be:C.mg (EE "zip")=none:=(H.glob _).trans (aQ gl (i:=39) rfl rfl)
theorem B4:C.mb (EE "zip")=some (.type "zip"):=(H.ok.blt _ (by have:=aQ bn (i:=5) rfl rfl;exact beq_eq_false_iff_ne.mp this)).trans (aQ bl (i:=5) rfl rfl)
theorem nk:C.mg (EE "isinstance")=none:=(H.glob _).trans (aQ gl (i:=40) rfl rfl)
theorem oK:C.mb (EE "isinstance")=some (.builtin "isinstance"):=(H.ok.blt _ (by have:=aQ bn (i:=6) rfl rfl;exact beq_eq_false_iff_ne.mp this)).trans (aQ bl (i:=6) rfl rfl)
theorem AD:C.mg (EE "iter")=none:=(H.glob _).trans (aQ gl (i:=41) rfl rfl)
theorem Ah:C.mb (EE "iter")=some (.builtin "iter"):=(H.ok.blt _ (by have:=aQ bn (i:=7) rfl rfl;exact beq_eq_false_iff_ne.mp this)).trans (aQ bl (i:=7) rfl rfl)
theorem zH:C.mg (EE "tuple")=none:=(H.glob _).trans (aQ gl (i:=42) rfl rfl)
theorem zI:C.mb (EE "tuple")=some (.type "tuple"):=(H.ok.blt _ (by have:=aQ bn (i:=8) rfl rfl;exact beq_eq_false_iff_ne.mp this)).trans (aQ bl (i:=8) rfl rfl)
theorem AB:C.mg (EE "list")=none:=(H.glob _).trans (aQ gl (i:=43) rfl rfl)
theorem Am:C.mb (EE "list")=some (.type "list"):=(H.ok.blt _ (by have:=aQ bn (i:=9) rfl rfl;exact beq_eq_false_iff_ne.mp this)).trans (aQ bl (i:=9) rfl rfl)
theorem BL:C.mg (EE "set")=none:=(H.glob _).trans (aQ gl (i:=44) rfl rfl)
theorem Bc:C.mb (EE "set")=some (.type "set"):=(H.ok.blt _ (by have:=aQ bn (i:=10) rfl rfl;exact beq_eq_false_iff_ne.mp this)).trans (aQ bl (i:=10) rfl rfl)
theorem Aw:C.mg (EE "dict")=none:=(H.glob _).trans (aQ gl (i:=45) rfl rfl)
theorem AU:C.mb (EE "dict")=some (.type "dict"):=(H.ok.blt _ (by have:=aQ bn (i:=11) rfl rfl;exact beq_eq_false_iff_ne.mp this)).trans (aQ bl (i:=11) rfl rfl)
theorem AY:C.mg (EE "bool")=none:=(H.glob _).trans (aQ gl (i:=46) rfl rfl)
theorem At:C.mb (EE "bool")=some (.type "bool"):=(H.ok.blt _ (by have:=aQ bn (i:=12) rfl rfl;exact beq_eq_false_iff_ne.mp this)).trans (aQ bl (i:=12) rfl rfl)
theorem B2:C.mg (EE "int")=none:=(H.glob _).trans (aQ gl (i:=47) rfl rfl)
theorem Bj:C.mb (EE "int")=some (.type "int"):=(H.ok.blt _ (by have:=aQ bn (i:=13) rfl rfl;exact beq_eq_false_iff_ne.mp this)).trans (aQ bl (i:=13) rfl rfl)
theorem Bk:C.mg (EE "str")=none:=(H.glob _).trans (aQ gl (i:=48) rfl rfl)
theorem BW:C.mb (EE "str")=some (.type "str"):=(H.ok.blt _ (by have:=aQ bn (i:=14) rfl rfl;exact beq_eq_false_iff_ne.mp this)).trans (aQ bl (i:=14) rfl rfl)
theorem A9:C.mg (EE "type")=none:=(H.glob _).trans (aQ gl (i:=49) rfl rfl)
theorem AC:C.mb (EE "type")=some (.type "type"):=(H.ok.blt _ (by have:=aQ bn (i:=15) rfl rfl;exact beq_eq_false_iff_ne.mp this)).trans (aQ bl (i:=15) rfl rfl)
theorem xx:C.mg (EE "object")=none:=(H.glob _).trans (aQ gl (i:=51) rfl rfl)
theorem wC:C.mb (EE "object")=some (.type "object"):=(H.ok.blt _ (by have:=aQ bn (i:=17) rfl rfl;exact beq_eq_false_iff_ne.mp this)).trans (aQ bl (i:=17) rfl rfl)
theorem gJ:C.mg (EE "StopIteration")=none:=(H.glob _).trans (aQ gl (i:=52) rfl rfl)
theorem gL:C.mb (EE "StopIteration")=some (.type "StopIteration"):=(H.ok.blt _ (by have:=aQ bn (i:=18) rfl rfl;exact beq_eq_false_iff_ne.mp this)).trans (aQ bl (i:=18) rfl rfl)
theorem nM:C.mg (EE "ValueError")=none:=(H.glob _).trans (aQ gl (i:=53) rfl rfl)
theorem nh:C.mb (EE "ValueError")=some (.type "ValueError"):=(H.ok.blt _ (by have:=aQ bn (i:=19) rfl rfl;exact beq_eq_false_iff_ne.mp this)).trans (aQ bl (i:=19) rfl rfl)
theorem oZ:C.mg (EE "TypeError")=none:=(H.glob _).trans (aQ gl (i:=54) rfl rfl)
theorem qV:C.mb (EE "TypeError")=some (.type "TypeError"):=(H.ok.blt _ (by have:=aQ bn (i:=20) rfl rfl;exact beq_eq_false_iff_ne.mp this)).trans (aQ bl (i:=20) rfl rfl)
end
section
variable {C:Cx} (H:bH C)
include H
theorem bw:cE C.K 160:=by constructor<;>(rw [H.K];kernel_rfl)
theorem eN:gI C.K 63:=by constructor<;>(rw [H.K];kernel_rfl)
theorem B1:makesIn C.K 160=true:=by rw [H.K];kernel_rfl
theorem CU:makesIn C.K 63=true:=by rw [H.K];kernel_rfl
theorem B3:findIn C.K (.ref 160) "__init__" = some (some (.ref 96)):=by rw [H.K];kernel_rfl
theorem C2:findIn C.K (.ref 63) "__init__" = some (some (.ref 59)):=by rw [H.K];kernel_rfl
theorem fn_ {f:Addr} (h:typeIn (Kw C.w.params) (.ref f)=some (.type "function")):typeIn C.K (.ref f)=some (.type "function"):=by rw [H.K];exact h
theorem kp_ {f:Addr} (h:keepIn (Kw C.w.params) (.ref f)=true):keepIn C.K (.ref f)=true:=by rw [H.K];exact h
theorem fd_ {v:Value} {n:Str} {r} (h:findIn (Kw C.w.params) v n=some r):findIn C.K v n=some r:=by rw [H.K];exact h
theorem fi_ {f:Addr} (h:fnIn (Kw C.w.params) f=true):fnIn C.K f=true:=by rw [H.K];exact h
theorem sp_ {v:Value} {n:Str} {r} (h:JR (Kw C.w.params) v n=some r):JR C.K v n=some r:=by rw [H.K];exact h
theorem tk_ {v:Value} {r} (h:Km (Kw C.w.params) v=some r):Km C.K v=some r:=by rw [H.K];exact h
theorem sg:lM C.K 63 "node" 0:=⟨64,by rw [H.K];kernel_rfl,by rw [H.K];kernel_rfl,by rw [H.K];kernel_rfl,by rw [H.K];kernel_rfl,by rw [H.K];kernel_rfl⟩
theorem iN:lM C.K 63 "npredecessors" 1:=⟨65,by rw [H.K];kernel_rfl,by rw [H.K];kernel_rfl,by rw [H.K];kernel_rfl,by rw [H.K];kernel_rfl,by rw [H.K];kernel_rfl⟩
theorem sO:lM C.K 63 "successors" 2:=⟨66,by rw [H.K];kernel_rfl,by rw [H.K];kernel_rfl,by rw [H.K];kernel_rfl,by rw [H.K];kernel_rfl,by rw [H.K];kernel_rfl⟩
end
theorem i9 {α:Type} {l r:List α} {i:Nat}:(l++r)[l.length+i]? = r[i]?:=by rw [E2 (EP _ _),E4]
theorem iH {α:Type} {l r:List α}:(l++r)[l.length]? = r[0]?:=i9 (i:=0)
theorem sZ {α:Type} {l r:List α} {i:Nat} {y:α}:(l++r).set (l.length+i) y=l++r.set i y:=by rw [Eh _ _ (EP _ _),E4]
theorem fQ {α:Type} {l r:List α} {y:α}:(l++r).set l.length y=l++r.set 0 y:=sZ (i:=0)
theorem xW {α:Type} {l r:List α} {i:Nat} {x:α} (h:l[i]? = some x):(l++r)[i]? = some x:=by rw [Eg (EL.mp h).1];exact h
theorem z6 {α:Type} {l r:List α} {i:Nat} {x:α} (h:i<l.length):(l++r).set i x=l.set i x++r:=Kd _ _ h
section
open PySem.Builtin PySem.Builtin.Re
noncomputable def ko:Nat->Sre.M->Option Sre.M
 | 0,_=>none
 | n+1,m=>if (m.runFor reTurnSteps).outcome.isSome then some (m.runFor reTurnSteps) else ko n (m.runFor reTurnSteps)
noncomputable def fy:Array Nat:=#[14,17,4,1,1,21,9,0,604043296,1,0,0,0,0,0,8,4,0,13,14,21,9,0,604043296,1,0,0,0,0,0,8,4,0,1]
noncomputable def found (text:Array Nat):Option Bool:=match ko 64 (Sre.forSearch fy text 0 0 text.size false) with
 | some m=>match m.outcome with
  | some .matched=>some true
  | some .failed=>some false
  | _=>none
 | none=>none
section
variable {prog:Fq} {w:World} {A:Around} {E:Value->Shared->Prop} {s:Shared}
theorem sM {Q:Sre.M->Shared->Prop} {m':Sre.M}:∀ (n:Nat) (m:Sre.M) (k:Nat),n<=k->ko n m=some m'->Q m' s->wpAny (model prog w) A (reDrive k m) Q E s:=by
 intro n
 induction n with
 | zero=>
  intro _ _ _ h _
  cases h
 | succ n ih=>
  intro m k hk h q
  cases k with
  | zero=>exact absurd hk (Iw _)
  | succ k=>
  unfold ko at h
  unfold reDrive;dsimp only
  by_cases c:(m.runFor reTurnSteps).outcome.isSome
  ·rw [if_pos c] at h ⊢
   cases h
   exact EI q
  ·rw [if_neg c] at h ⊢
   exact ED (IK (ih _ k (HA hk) h q))
theorem tc {Q:PUnit->Shared->Prop} {c:Nat->Bool} {nm:Nat->String} (q:Q ⟨⟩ s):∀ (l:List Nat),wpAny (model prog w) A (forIn l PUnit.unit fun i zz=>do
   if c i=true then
    rule (nm i)
    pure (ForInStep.yield PUnit.unit)
   else pure (ForInStep.yield PUnit.unit)) Q E s:=by
 intro l
 induction l with
 | nil=>rw [I5];exact EI q
 | cons i l ih=>
  rw [KV]
  refine ED ?_
  by_cases h:c i=true
  ·rw [if_pos h]
   exact ED (IK (EI ih))
  ·rw [if_neg h]
   exact EI ih
theorem xS {text:Array Nat} {b:Bool} {Q:Option Sre.M->Shared->Prop} (h:found text=some b) (q:∀ r:Option Sre.M,r.isSome=b->Q r s):wpAny (model prog w) A (reRunToEnd (Sre.forSearch fy text 0 0 text.size false)) Q E s:=by
 unfold found at h
 unfold reRunToEnd
 cases hm:ko 64 (Sre.forSearch fy text 0 0 text.size false) with
 | none=>rw [hm] at h;cases h
 | some m=>
  rw [hm] at h
  dsimp only at h
  refine ED (sM 64 _ _ (by decide) hm ?_)
  refine ED (tc ?_ _)
  cases ho:m.outcome with
  | none=>rw [ho] at h;cases h
  | some o=>
   rw [ho] at h
   cases o with
   | matched=>cases h;exact EI (q _ rfl)
   | failed=>cases h;exact EI (q _ rfl)
   | stuck y=>cases h
end
end
section
open PySem.Builtin PySem.Builtin.Re PySem.Challenge
theorem nO:JA table "re.Pattern.search" = some Ep.«re.Pattern.search» := entryFor_of_fast (by kernel_rfl)
theorem qm {P:Params} {S:JQ} {v:Value}:peek (Kw P) S (I9 "re.Pattern.search" ⟨[.ref 169,v],[]⟩)=some ():=by kernel_rfl
theorem qM {P:Params} {S:JQ} {x:Str} {t:Tok}:peek (Kw P) S (reTarget "re.Pattern.search" "search" ⟨[.ref 169,.str x t],[]⟩)=some {pattern:=.ref 169,string:=.str x t,code:=fy,text:=x.cps,kind:=0,groups:=0,pos:=min (Hv 0) x.cps.size,lim:=min (Hv (2 ^ 63 - 1)) x.cps.size}:=by kernel_rfl
theorem tK {P:Params}:(Kw P).lookup 872=some {cls:=.type "builtin_function_or_method",dict:=none,data:=.fields #[.builtin "re.Pattern.search",.ref 169],slots:=#[]}:=by kernel_rfl
section
variable {prog:Fq} {w:World} {A:Around} {E:Value->Shared->Prop} {s:Shared} {P:Params}
theorem oj {x:Str} {t:Tok} {b:Bool} {Q:PySem.Fin->Shared->Prop} (X:(Kw P).In s.heap) (hz:x.cps.size<1000) (hf:found x.cps=some b)
  (hQ:∀ v h',(if b then ∃ a,v=Fj a else v=.none)->s.heap.objs.size<=h'.objs.size->(∀ a o,s.heap.get? a=some o->h'.get? a=some o)->Q (.done (.ret v)) {s with heap:=h'}) :
  wpAny (model prog w) A (Ep.«re.Pattern.search» ⟨[.ref 169,.str x t],[]⟩) Q E s:=by
 unfold Ep.«re.Pattern.search»
 refine ED ((It X qM).here ?_)
 dsimp only
 have' hm:min (Hv (2 ^ 63 - 1)) x.cps.size=x.cps.size:=Hz (by
  have:Hv (2 ^ 63 - 1)=2 ^ 63 - 1:=by decide
  omega)
 rw [show min (Hv 0) x.cps.size=0 from Nat.zero_min _,hm]
 unfold reAnswer
 refine ED (xS hf fun r hr=>?_)
 cases r with
 | none=>
  obtain rfl:b=false:=hr.symm;exact EI (hQ _ s.heap rfl (EK _) fun zz zz e=>e)
 | some m=>
  obtain rfl:b=true:=hr.symm;dsimp only;refine ED ?_;unfold reNewMatch;dsimp only
  rw [show (EQ 0).any _=false from rfl,if_neg (by decide)]
  refine ED (wpAny_newTuple ?_ (by show (2:Nat)<=FI;rw [ER];decide))
  unfold newFields;refine G8 ?_ (by first | size_fits | trivial | (unfold sizeOk;dsimp only;rw [ER];decide) | (simp [sizeOk,ER]))
  refine EI (hQ _ _ ⟨_,rfl⟩ (by simp only [EU];omega) fun a o e=>EM _ (EM _ e))
theorem qS {x:Str} {t:Tok} {b:Bool} {Q:Value->Shared->Prop} (X:(Kw P).In s.heap) (hz:x.cps.size<1000) (hf:found x.cps=some b)
  (hQ:∀ v h',(if b then ∃ a,v=Fj a else v=.none)->s.heap.objs.size<=h'.objs.size->(∀ a o,s.heap.get? a=some o->h'.get? a=some o)->Q v {s with heap:=h'}) :
  wpAny (model prog w) A (call (.ref 872) [.str x t]) Q E s:=by
 refine Fi ?_
 obtain ⟨hh,g,d,tk,os⟩:=s
 refine Gx ?_
 show wpAny _ _ (Kn (.ref 872) _) _ _ _
 refine Ls (X _ _ tK) (nd_bind (nd_pure ?_))
 show wpAny _ _ (I9 "re.Pattern.search" ⟨[.ref 169,.str x t],[]⟩ >>= _) _ _ _
 refine ED ((It X qm).here (EI ⟨Code.quiet_builtin _ (by decide +kernel),?_⟩))
 refine Fg nO ?_
 exact oj X hz hf fun v h' h1 h2 h3=>hQ v h' h1 h2 h3
end
end
section
variable {C:Cx} {lv:Lv} {N:aF} {ρ ρ₁ ρ₂:aO} {σ σ₁ σ₂:aC} {e:Expr}
theorem jT {P:Params} {M:Model} {h:Heap} (X:(Kw P).In h):Looks M h (LZ (.ref 872)) .machine:=(I7 (part:=none) (X _ _ tK)).andThen .now
theorem lO (H:bH C) {fu:Str} {x:Str} {b:Bool} {np pos p1 p2:Pos} {k:Nat} (hf:aG C lv N (.Name fu np) ρ σ (.con (.ref 872)) ρ σ) (he:aG C lv N e ρ σ (.dat (.str x)) ρ₁ σ₁) (hb:found x.cps=some b) (hz:x.cps.size<1000) (hn:autoParam (cA e=true) aR)
  (hw:autoParam (∀ env,eval (.Call (.Name fu np) [e] [] pos) env=(do
   let f <- eval (.Name fu np) env
   HO pos f [] (backTo pos (Fy [e] env)) (HE pos (GH [] env)))) aV)
  (hm:autoParam (Kz .Is (.Constant .none k p1)=false) aU):aY C lv N (.Compare (.Call (.Name fu np) [e] [] pos) [.Is] [.Constant .none k p1] p2) ρ σ (!b) ρ₁ σ₁:=by
 intro A env μ s Q E ok G F hQ
 refine K0 ?_ hm
 rw [hw]
 refine ED (hf A env μ s _ _ ok G F fun v μ1 s1 P1 hv1=>?_)
 obtain rfl:=hv1
 refine Ln (P:=fun h=>(Kw C.w.params).In h) (by rw [a7 hn];rfl) (fun h h0=>⟨_,.inr (.inl rfl),jT h0⟩) ((aZ (bF he bR hn) hn) A env μ1 s1 pos _ _ _ ok P1.good P1.fr fun vs kvs μ2 s2 P2 rv rk=>?_)
 obtain rfl:=rk.e0
 obtain ⟨u,rfl,as,ru⟩:=rv.e1
 cases ru using RS with
 | str t=>
  have X2:(Kw C.w.params).In s2.heap:=by have:=P2.good.inK ok;rw [H.K] at this;exact this
  refine ⟨X2,qS X2 hz hb fun v h' hv hl hk=>?_⟩
  have' k1:aL A0 NoW s2 {s2 with heap:=h'}:=ab (tk:=s2.toks) hl hk;have P3:=P1.trans (P2.trans (aS.grow P2.good P2.fr k1));refine Kq ?_
  cases b with
  | false=>
   obtain rfl:v=.none:=hv;refine I6 (by rfl) ?_
   exact HN (hQ _ _ P3)
  | true=>
   obtain ⟨a,rfl⟩:∃ a,v=.ref a:=hv;refine I6 (by rfl) ?_
   exact HN (hQ _ _ P3)
theorem qd {q x y z:Str} {apos pos p0 p1 p2 p3:Pos} {k0 k1 k2:Nat} (he:aG C lv N e ρ σ (.dat (.str x)) ρ σ) (hyz:(y==z)=false) (hz:x.length+(x.length+1) * z.length<=16777216) (hq:q.length+(HB x y z).length<=FI)
  (hbase:autoParam (∀ env,HR e "replace" env (eval e env)=eval e env) aI)
  (hfew:autoParam (∀ env,((backTo pos (Fy [.Constant (.str y) k1 p1,.Constant (.str z) k2 p2] env)).all (fun x=>!x.1) && (HE pos (GH [] env)).all (fun x=>x.1.isSome)
   && decide ([Expr.Constant (.str y) k1 p1,.Constant (.str z) k2 p2].length+([]:List IH).length+(if ([]:List IH).isEmpty then 0 else 1)<30))=true) aI)
  (hline:autoParam ((apos.endLine==pos.line)=true) aR):aG C lv N (.BinOp (.Constant (.str q) k0 p0) .Add (.Call (.Attribute e "replace" apos) [.Constant (.str y) k1 p1,.Constant (.str z) k2 p2] [] pos) p3) ρ σ (.dat (.str (q++HB x y z))) ρ σ:=by
 intro A env μ s Q E ok G F hQ
 refine wpAny_BinOp (Hc ?_)
 have P0:=aS.grow G F (ae (s:=s) (s.toks+1))
 refine He (hbase env) (hfew env) hline rfl (rB (he A env μ _ _ _ ok P0.good P0.fr fun v μ1 s1 P1 hv htk=>?_))
 obtain ⟨as,hv⟩:=hv
 cases hv using RS with
 | str t=>
  refine ⟨"str", "str.replace",PySem.F.plainAttrs_str,PySem.F.slot_str_replace,PySem.F.type_str_replace,rfl,(fun b hb=>by cases hb),?_⟩
  refine Fx (bg (es:=[.Constant (.str y) k1 p1,.Constant (.str z) k2 p2]) rfl) ?_
  rw [a7 (by rfl)]
  refine FS (FW (Hc (k:=k1) (pos:=p1) ?_))
  rw [a7 (by rfl)]
  refine FW (Hc (k:=k2) (pos:=p2) (Fs ?_));have h1:s1.toks≠0:=by have:s.toks+1<=s1.toks:=htk;omega
  refine SC.replace h1 (HW _) (FG (E6 _)) hyz hz fun t' k=>?_
  refine PyProof.Rows.add_str (fun t2 tk=>?_) hq
  exact hQ _ _ _ (P0.trans (P1.trans (aS.grow P1.good P1.fr (ae tk)))) ⟨[],.str _ t2⟩
theorem ym {x y:Str} (hz:x.length+y.length<=FI):Op2 C (.str x) (.str y) (.str (x++y)) (Iy .Add):=.mk fun zz zz zz zz zz zz zz zz zz zz ru rv zz hQ=>by
 cases ru using RS;cases rv using RS
 with_reducible exact PyProof.Rows.add_str (fun t tk=>hQ _ _ [] (ae tk) (.str _ t)) hz
end
section
variable {C:Cx} {lv:Lv} {N:aF} {ρ ρ₁ ρ₂ ρ₃:aO} {σ σ₁ σ₂ σ₃:aC}
theorem xm {o:CmpOp} {x y:Str} (e:autoParam (o=.Eq) aR):Op2 C (.str x) (.str y) (.bool (x==y)) (Ff o):=by
 subst e
 refine .mk ?_
 intro _ _ _ _ _ _ _ _ _ _ ru rv _ hQ
 cases ru using RS;cases rv using RS;with_reducible exact PyProof.Rows.eq_str (hQ _ _ [] (aL.refl _ _ _) (.bool _))
theorem Ae {o:CmpOp} {x y:Str} (e:autoParam (o=.NotEq) aR):Op2 C (.str x) (.str y) (.bool (x != y)) (Ff o):=by
 subst e
 refine .mk ?_
 intro _ _ _ _ _ _ _ _ _ _ ru rv _ hQ
 cases ru using RS;cases rv using RS;with_reducible exact PyProof.Rows.ne_str (hQ _ _ [] (aL.refl _ _ _) (.bool _))
theorem yd {o:CmpOp} (e:autoParam (o=.Eq) aR):Op2 C .none .none (.bool true) (Ff o):=by
 subst e
 refine .mk ?_
 intro _ _ _ _ _ _ _ _ _ _ ru rv _ hQ
 cases ru using RN;cases rv using RN;with_reducible exact PySem.EqNone.eq_none_none (hQ _ _ [] (aL.refl _ _ _) (.bool _))
theorem yl {o:CmpOp} {x:Str} (e:autoParam (o=.Eq) aR):Op2 C (.str x) .none (.bool false) (Ff o):=by
 subst e
 refine .mk ?_
 intro _ _ _ _ _ _ _ _ _ _ ru rv _ hQ
 cases ru using RS;cases rv using RN;with_reducible exact PySem.EqNone.eq_str_none (hQ _ _ [] (aL.refl _ _ _) (.bool _))
noncomputable def jy (y x:Str):Bool:=!(Ep.Str.occurrences x y 0 x.length 1).isEmpty
theorem vm {o:CmpOp} {x y:Str} (e:autoParam (o=.In) aR):Op2 C (.str y) (.str x) (.bool (jy y x)) (Ff o):=by
 subst e
 refine .mk ?_
 intro _ _ _ _ _ _ _ _ _ _ ru rv _ hQ
 cases ru using RS;cases rv using RS;with_reducible exact PyProof.Rows.in_str (hQ _ _ [] (aL.refl _ _ _) (.bool _))
theorem zx {o:CmpOp} {a b:String} (e:autoParam (o=.Is) aR):OpG C lv σ (.con (.type a)) (.con (.type b)) (.bool (Fa a==Fa b)) (Ff o):=by
 subst e
 refine .mk ?_
 intro A μ u v s Q E ok G ru rv hQ
 obtain rfl:u=.type a:=ru
 obtain rfl:v=.type b:=rv
 exact I6 (by rfl) (hQ _ _ [] (aL.refl _ _ _) (.bool _))
theorem iG {o:CmpOp} {a b:String} (e:autoParam (o=.IsNot) aR):OpG C lv σ (.con (.type a)) (.con (.type b)) (.bool (!(Fa a==Fa b))) (Ff o):=by
 subst e
 refine .mk ?_
 intro A μ u v s Q E ok G ru rv hQ
 obtain rfl:u=.type a:=ru
 obtain rfl:v=.type b:=rv
 exact Jh (by rfl) (hQ _ _ [] (aL.refl _ _ _) (.bool _))
theorem ug {a b:Addr} {oa ob:Obj} (ha:C.K.lookup a=some oa) (hb:C.K.lookup b=some ob) (hne:a≠b) (ht:oa.cls≠.type "tuple"):OpG C lv σ (.con (.ref a)) (.con (.ref b)) (.bool true) (Ff .IsNot):=.mk fun A μ u v s Q E ok G ru rv hQ=>by
 obtain rfl:u=.ref a:=ru
 obtain rfl:v=.ref b:=rv
 have X:=G.inK ok
 exact wpAny_isNot_ref_other hne (X _ _ ha) (X _ _ hb) ht (hQ _ _ [] (aL.refl _ _ _) (.bool _))
theorem qH {M:Model} {a:Addr}:(isSame (.ref a) (.ref a):Sem Bool)=pure true:=by
 show (if (a==a)=true then pure true else _:Sem Bool)=_
 rw [if_pos (beq_self_eq_true a),]
theorem nI {a:Addr}:OpG C lv σ (.con (.ref a)) (.con (.ref a)) (.bool false) (Ff .IsNot):=.mk fun A μ u v s Q E ok G ru rv hQ=>by
 obtain rfl:u=.ref a:=ru
 obtain rfl:v=.ref a:=rv
 show wpAny _ _ (do return .bool (!(<- isSame (.ref a) (.ref a)))) Q E s
 rw [qH (M:=model C.prog C.w),]
 exact ED (EI (EI (hQ _ _ [] (aL.refl _ _ _) (.bool _))))
theorem pE {x:Str}:dQ C lv σ (.type "type") [.dat (.str x)] (.con (.type "str")) σ:=by
 intro N ρ A env μ s vs Q E ok G F r hQ
 obtain ⟨u,rfl,⟨as,ru⟩⟩:=r.e1
 cases ru using RS
 obtain ⟨hh,g,d,t,os⟩:=s
 exact PySem.call_type_of (Tx := "str") (LJ _ _ _) (by decide) (hQ _ μ _ (aS.refl G F) rfl)
theorem wL {i:Int}:dQ C lv σ (.type "type") [.dat (.int i)] (.con (.type "int")) σ:=by
 intro N ρ A env μ s vs Q E ok G F r hQ
 obtain ⟨u,rfl,⟨as,ru⟩⟩:=r.e1
 cases ru using RI
 obtain ⟨hh,g,d,t,os⟩:=s
 exact PySem.call_type_of (Tx := "int") rfl (by decide) (hQ _ μ _ (aS.refl G F) rfl)
theorem zS {i:Int}:dQ C lv σ (.type "int") [.dat (.int i)] (.dat (.int i)) σ:=by
 intro N ρ A env μ s vs Q E ok G F r hQ
 obtain ⟨u,rfl,⟨as,ru⟩⟩:=r.e1
 cases ru using RI with
 | int t=>exact PySem.call_int_int (hQ _ μ _ (aS.refl G F) ⟨[],.int i t⟩)
theorem dw {x y:Expr} {r:List Expr} {pos:Pos} {b:Bool} (h:aY C lv N x ρ σ true ρ₁ σ₁) (h':aY C lv N (.BoolOp .And (y :: r) pos) ρ₁ σ₁ b ρ₂ σ₂):aY C lv N (.BoolOp .And (x :: y :: r) pos) ρ σ b ρ₂ σ₂:=fun A env μ s zz zz ok G F hQ=>
 HU (Hd (h A env μ s _ _ ok G F fun μ1 s1 P1=>h' A env μ1 s1 _ _ ok P1.good P1.fr fun μ2 s2 P2=>hQ μ2 s2 (P1.trans P2)))
end
section
open PySem.Builtin.Str
noncomputable def c8 (c:Nat):Str:=⟨#[c]⟩
set_option tactic.hygienic true in
theorem vP {x:Str} {i c:Nat} (h:x.cps[i]? = some c):Txt.slice x (some (i:Int)) (some (((i+1:Nat)):Int))=c8 c:=by
 have hi:i<x.cps.size:=(F0.mp h).1
 have' e:=StrLaws.strSliceIndices_plain (a:=i) (b:=i+1) (len:=x.length) (Ej _) hi
 have e2:List.range' i (i+1 - i)=[i]:=by rw [E4];rfl
 unfold Txt.slice
 rw [e]
 split
 ·rename_i hc
  simp only [Ea,beq_iff_eq] at hc
  have hl:x.cps.size=1:=by
   have:=hc.2
   simp at this
   exact this.symm
  obtain ⟨cps⟩:=x;dsimp only at h hl hi
  have:i=0:=by omega
  subst this;unfold c8
  congr 1
  apply Array.ext
  ·simpa using hl
  ·intro j h1 h2
   have:j=0:=by omega
   subst this
   simpa [HF hi] using h
 ·unfold c8
  congr 1
  simp [h,List.range'_eq_map_range]
section
variable {C:Cx} {lv:Lv} {N:aF} {ρ ρ₁ ρ₂ ρ₃:aO} {σ σ₁ σ₂ σ₃:aC} {i:Nat} {e:Expr}
theorem yP {b:Expr} {x:Str} {t:Tok} {r:Value}:H1 b (.str x t) r=pure ():=by cases b<;>rfl
theorem qg {M:Model} {A:Around} {E:Value->Shared->Prop} {s:Shared} {env:Env} {value lo hi:Expr} {p pos:Pos} {Q:Value->Shared->Prop}
  (h:wpAny M A (eval value env) (fun o s₁=>wpAny M A (eval lo env) (fun vl s₂=>wpAny M A (eval hi env) (fun vu s₃=>(∃ x t,o=.str x t) /\
   wpAny M A (Kk o (.ref s₃.heap.objs.size)) Q E {s₃ with heap:=s₃.heap.push {cls:=.type "slice",data:=.fields #[vl,vu,.none]}}) E s₂) E s₁) E s) :
  wpAny M A (eval (.Subscript value (.Slice (some lo) (some hi) none p) pos) env) Q E s:=by
 rw [eval_Subscript]
 refine ED (Es h (fun o s₁ h₁=>ED (E1 (wpAny_Slice (Kv (Es h₁ (fun vl s₂ h₂=>Kv (Es h₂ (fun vu s₃ h₃=>?_) fun zz zz x=>x)) fun zz zz x=>x))))) fun zz zz x=>x)
 obtain ⟨⟨x,t,rfl⟩,h₃⟩:=h₃
 refine wpAny_evalPart_none (ED (FT ?_))
 have hT:({s₃ with heap:=s₃.heap.push {cls:=.type "slice",data:=.fields #[vl,vu,.none]}}:Shared).TypeIs (.str x t) "str" := LJ _ x t
 have fin:wpAny M A (LX [.ref s₃.heap.objs.size,.str x t] (Kk (.str x t) (.ref s₃.heap.objs.size))) (fun r s₄=>wpAny M A (H1 value (.str x t) r >>= fun zz=>pure r) Q E s₄) E {s₃ with heap:=s₃.heap.push {cls:=.type "slice",data:=.fields #[vl,vu,.none]}}:=
  KW (Es h₃ (fun r s₄ h₄=>ED (GG yP (EI h₄))) fun zz zz x=>x)
 first
  | (refine ED ?_;rw [getitemInPython_of_ne hT.not_modules];refine ED (JF hT PySem.F.slot_str_getitem.lookup ?_);first | exact EI (ED fin) | exact ED (EI (ED fin)) | exact ED fin)
  | (refine ED (JF hT PySem.F.slot_str_getitem.lookup ?_);first | exact ED (EI (ED fin)) | exact ED fin)
theorem rO {value lo hi:Expr} {p pos:Pos} {x:Str} {i j:Int} (hv:aG C lv N value ρ σ (.dat (.str x)) ρ₁ σ₁) (hl:aG C lv N lo ρ₁ σ₁ (.dat (.int i)) ρ₂ σ₂) (hu:aG C lv N hi ρ₂ σ₂ (.dat (.int j)) ρ₃ σ₃) (hz:x.length<=FI):aG C lv N (.Subscript value (.Slice (some lo) (some hi) none p) pos) ρ σ (.dat (.str (Txt.slice x (some i) (some j)))) ρ₃ σ₃:=by
 intro A env μ s Q E ok G F hQ
 refine qg (hv A env μ s _ _ ok G F fun v μ1 s1 P1 ⟨_,r⟩=>hl A env μ1 s1 _ _ ok P1.good P1.fr fun vl μ2 s2 P2 ⟨_,r2⟩=>hu A env μ2 s2 _ _ ok P2.good P2.fr fun vu μ3 s3 P3 qq1=>?_)
 obtain ⟨_,r3⟩:=qq1
 cases r using RS with
 | str t=>cases r2 using RI with
  | int t2=>cases r3 using RI with
   | int t3=>
    refine ⟨⟨x,t,rfl⟩,wpAny_getItem_str_slice (l:=some (i,t2)) (u:=some (j,t3)) (st:=none) ⟨_,ES _ rfl,rfl,rfl⟩ rfl ?_⟩;have P4:=P1.trans (P2.trans (P3.trans (aS.grow P3.good P3.fr (bD {cls:=.type "slice",data:=.fields #[.int i t2,.int j t3,.none]} s3.toks))));exact post_val_or_str ⟨EH (Txt.slice_le x _ _) hz,fun t' k=>hQ _ _ _ (P4.trans (aS.grow P4.good P4.fr (ae k))) ⟨[],.str _ t'⟩⟩
theorem pw {x y:Str} (hz:x.length+y.length<=FI):Op2 C (.str x) (.str y) (.str (x++y)) (Lg .Add):=.mk fun zz zz zz zz zz zz zz zz zz zz ru rv zz hQ=>by
 cases ru;cases rv
 with_reducible exact PyProof.Rows.iadd_str (fun t tk=>hQ _ _ [] (ae tk) (.str _ t)) hz
theorem sQ {x:Str} (hz:(x.length:Int)<2 ^ 63):fH C lv σ (.builtin "len") [.dat (.str x)] (.int x.length):=fun A μ s vs Q E ok G r hQ=>by
 obtain ⟨v,rfl,⟨as,r⟩⟩:=r.e1
 cases r using RS with
 | str t=>exact PyProof.Rows.len_str (by omega) (hQ _ _ [] (ae _) (.int _ _))
end
end
section
open PySem PySem.W PyProof.Rows PySem.Builtin PySem.Builtin.ObjectAttr
noncomputable def fG {α:Type} (K:Frag) (S:JQ):Sem α->Option (Obj×(Addr->Option (Obj×(Addr->Option α))))
 | .rule _ k=>fG K S (k ())
 | .point _ k=>fG K S (k ())
 | .ask k=>fG K S (k S)
 | .load a _ k=>(K.lookup a).bind fun o=>fG K S (k o)
 | .alloc o k=>some (o,fun D=>peek1 K S (k D))
 | _=>none
theorem on {α:Type} {K:Frag} {S:JQ} {t:Sem α} {o:Obj} {o2:Addr->Obj} {r:Addr->Addr->α} (h1:(fG K S t).map (·.1)=some o) (h2:∀ D,((fG K S t).bind fun p=>(p.2 D).map (·.1))=some (o2 D))
  (h3:∀ D D2,((fG K S t).bind fun p=>(p.2 D).bind fun q=>q.2 D2)=some (r D D2)):∃ g,fG K S t=some (o,g)/\∀ D,∃ g',g D=some (o2 D,g')/\∀ D2,g' D2=some (r D D2):=by
 generalize fG K S t=z at *
 cases z with
 | none=>cases h1
 | some p=>
  obtain ⟨a,g⟩:=p
  cases h1
  refine ⟨g,rfl,fun D=>?_⟩
  have a2:=h2 D;have a3:=h3 D;dsimp only [H4] at a2 a3
  generalize g D=y at *
  cases y with
  | none=>cases a2
  | some q=>
   obtain ⟨b,g'⟩:=q
   cases a2
   exact ⟨g',rfl,a3⟩
theorem q8 {α:Type} {K:Frag} {M:Model} {A:Around} {E:Value->Shared->Prop} {Q:α->Shared->Prop} {s:Shared} {o:Obj} {o2:Addr->Obj} {r:Addr->Addr->α} (X:K.In s.heap)
  (q:Q (r s.heap.objs.size (s.heap.objs.size+1)) {s with heap:=(s.heap.push o).push (o2 s.heap.objs.size)}) (X2:K.In (s.heap.push o)) (X3:K.In ((s.heap.push o).push (o2 s.heap.objs.size))) :
  ∀ (t:Sem α) (g:Addr->Option (Obj×(Addr->Option α))),fG K ⟨M.prog,M.w.params⟩ t=some (o,g)->(∀ D,∃ g',g D=some (o2 D,g')/\∀ D2,g' D2=some (r D D2))->wpAny M A t Q E s:=by
 intro t
 induction t with
 | rule _ k ih=>intro g e h;exact ih () g e h
 | point _ k ih=>intro g e h;exact ih () g e h
 | ask k ih=>intro g e h;exact nd_ask (ih _ g e h)
 | load a _ k ih=>
  intro g e h;have e:((K.lookup a).bind fun o=>fG K ⟨M.prog,M.w.params⟩ (k o))=some (o,g):=e
  cases ho:K.lookup a with
  | none=>rewrite [ho] at e;cases e
  | some o'=>rewrite [ho] at e;exact Ls (X _ _ ho) (ih _ g e h)
 | alloc o' k ih=>
  intro g e h;have' e:some (o',fun D=>peek1 K ⟨M.prog,M.w.params⟩ (k D))=some (o,g):=e
  cases e
  refine nd_alloc ?_;obtain ⟨g',e2,h2⟩:=h s.heap.objs.size;refine jE (M:=M) (s:={s with heap:=s.heap.push _}) (r:=r s.heap.objs.size) X2 ?_ X3 _ g' e2 h2
  show Q (r s.heap.objs.size (s.heap.push _).objs.size) _
  rw [EU]
  exact q
 | _=>intro g e;cases e
section
variable {C:Cx}
theorem bQ.var2 {fd:Hr} {as:List AV} (names:List Str) (v w:Str) (n:Nat) (ds:List PyData) (hds:as.drop n=ds.map .dat)
  (hp:∀ vs:List Value,vs.length=as.length->∀ S,∃ g,fG C.K S (Jz fd ⟨vs,[]⟩)=some (({cls:=.type "tuple",data:=.seq (vs.drop n).toArray}:Obj),g)/\∀ D,∃ g',g D=some (({cls:=.type "dict",data:=.dict #[]}:Obj),g')/\∀ D2,g' D2=some (names.zip vs++[(v,.ref D),(w,.ref D2)])) :
  bQ C fd as [] (names.zip as++[(v,.dat (.tuple ds)),(w,.dat (.dict []))]):=by
 intro A μ s vs kvs Q E X hlt r rk hQ
 cases kvs with
 | cons _ _=>exact rk.elim
 | nil=>
  obtain ⟨g,h1,h2⟩:=hp vs (bP r) ⟨C.prog,C.w.params⟩;have k1:aL A0 NoW s {s with heap:=s.heap.push {cls:=.type "tuple",data:=.seq (vs.drop n).toArray}}:=bD _ _;have k:aL A0 NoW s {s with heap:=(s.heap.push {cls:=.type "tuple",data:=.seq (vs.drop n).toArray}).push {cls:=.type "dict",data:=.dict #[]}}:=
   ab (tk:=s.toks) (by simp only [EU];exact Fl (Ej _)) fun zz zz e=>EM _ (EM _ e)
  refine q8 (M:=model C.prog C.w) (o2:=fun zz=>{cls:=.type "dict",data:=.dict #[]}) (r:=fun D D2=>names.zip vs++[(v,.ref D),(w,.ref D2)]) X (hQ _ _ k ?_) (fun a o e=>k1.up _ _ (X a o e)) (fun a o e=>k.up _ _ (X a o e)) _ g h1 h2
  have r':ay μ ((s.heap.push {cls:=.type "tuple",data:=.seq (vs.drop n).toArray}).push {cls:=.type "dict",data:=.dict #[]}) as vs:=r.mono (Ext.refl _ _) k noW;have hd:ay μ ((s.heap.push {cls:=.type "tuple",data:=.seq (vs.drop n).toArray}).push {cls:=.type "dict",data:=.dict #[]}) (as.drop n) (vs.drop n):=by
   generalize (s.heap.push {cls:=.type "tuple",data:=.seq (vs.drop n).toArray}).push {cls:=.type "dict",data:=.dict #[]}=hh at r'
   clear hQ h1 h2 g k k1 r hp hds;revert as vs
   induction n with
   | zero=>intro as vs r';exact r'
   | succ n ih=>
    intro as vs r'
    cases as with
    | nil=>cases vs with
     | nil=>exact trivial
     | cons=>exact r'.elim
    | cons=>cases vs with
     | nil=>exact r'.elim
     | cons=>exact ih _ r'.2
  rw [hds] at hd
  obtain ⟨bs,ra⟩:=fR hd;refine ke (kn r') ⟨⟨rfl,_,.tuple (Fc _ (EM _ (ES _ rfl)) fun q=>absurd (hlt _ q) (E5 _)) rfl rfl (by simpa using ra)⟩,⟨rfl,?_⟩,trivial⟩
  have' hget:((s.heap.push {cls:=.type "tuple",data:=.seq (vs.drop n).toArray}).push {cls:=.type "dict",data:=.dict #[]}).get? (s.heap.objs.size+1)=some {cls:=.type "dict",data:=.dict #[]}:=by
   have:=ES (s.heap.push {cls:=.type "tuple",data:=.seq (vs.drop n).toArray}) (o:={cls:=.type "dict",data:=.dict #[]}) rfl
   rwa [EU] at this
  exact ⟨_,.dict (kvs:=[]) (Fc _ hget fun q=>absurd (hlt _ q) (E3.mpr (Ej _))) rfl rfl .nil .nil⟩
variable {lv:Lv} {N:aF} {ρ ρ₁ ρ₂:aO} {σ σ₁ σ₂:aC} {e ob:Expr} {c:Addr} {apos pos:Pos}
theorem oR {prog:Fq} {w:World} {A:Around} {E:Value->Shared->Prop} {s:Shared} {K:Frag} {v:Value} {name:Str} {T:String} {pl:Sem Bool} {Q:Value×List Value->Shared->Prop} (X:K.In s.heap) (ht:typeOf (.type T)=pure (.type "type")) (hs:Manifest.isStub T=false)
  (e:findCls K (.type T) (.type "type") name=some (.val v)) (hh:handedIn v=true) (h:Q (v,[]) {s with toks:=s.toks+1}):wpAny (model prog w) A (IW (.type T) name pl) Q E s:=by
 have hstub:H5 (.type T)=pure none:=by unfold H5;dsimp only;rw [hs];rfl
 have L0:Looks (model prog w) s.heap (typeOf (.type T)) (.type "type"):=Fd ht
 have hg:findIn K (.type "type") "__getattribute__" = some (some (.builtin "type.__getattribute__")):=type_tga
 unfold IW Gk
 with_reducible refine ED (ED (L0.here ((IA X hg).here ?_)))
 dsimp only
 rw [if_pos canon_tga]
 with_reducible refine ED (Es (Q:=fun v=>Q (v,[])) (E:=E) ?_ (fun zz zz z=>EI z) fun zz zz z=>z)
 have' LO:Looks (model prog w) s.heap (H5 (.type T)) none:=Fd hstub
 refine cls_open X LO L0 hg (looks_hook X (r:=none) (by kernel_rfl)) (by kernel_rfl) e
  (EI (by show wpAny _ _ (Lf v) _ _ _;rw [KM hh];exact EI h))
theorem q9 {K:Frag}:findCls K (.type "object") (.type "type") "__new__" = some (.val (.builtin "object.__new__")):=by kernel_rfl
theorem pS:typeOf (.type "object")=pure (.type "type"):=by show pure (Fa ((Manifest.find? "object").elim "type" fun x=>x.metatype))=_;kernel_rfl
theorem qa:Manifest.isStub "object" = false:=by kernel_rfl
theorem sA (ho:aG C lv N ob ρ σ (.con (.type "object")) ρ₁ σ₁) (hc:aG C lv N e ρ₁ σ₁ (.con (.ref c)) ρ₂ σ₂) (pk:∀ S,peek C.K S (IB "object.__new__" ⟨[.ref c],[]⟩)=some ())
  (pk2:∀ S,∃ g,fG C.K S (Ep.«object.__new__» ⟨[.ref c],[]⟩)=some (emptyDict,g)/\∀ D,∃ g',g D=some (Gs c D,g')/\∀ D2,g' D2=some (.done (.ret (.ref D2))))
  (hn:autoParam (cA e=true) aR)
  (hw:∀ env,∃ pl,eval (.Call (.Attribute ob "__new__" apos) [e] [] pos) env=(do
   let ov <- eval ob env
   HT apos.atName
   let (f,first) <- Hx [ov] (IW ov "__new__" pl)
   HO pos f first (backTo pos (Fy [e] env)) (HE pos (GH [] env)))):aG C lv N (.Call (.Attribute ob "__new__" apos) [e] [] pos) ρ σ (.ref σ₂.length) ρ₂ (σ₂++[.inst c []]):=by
 intro A env μ s Q E ok G F hQ
 obtain ⟨pl,hw⟩:=hw env
 refine LA (ho A env μ s _ _ ok G F fun v μ1 s1 P1 hv=>?_) hw
 obtain rfl:v=.type "object" := hv
 with_reducible refine oR (K:=C.K) (T := "object") (name := "__new__") (v:=.builtin "object.__new__") (P1.good.inK ok) pS qa q9 (by kernel_rfl) ?_
 have P1':=P1.trans (aS.grow P1.good P1.fr (ae (s1.toks+1)))
 dsimp only
 refine Fx (bg (es:=[e]) (by rw [GJ,hn];rfl)) ?_
 rw [a7 hn]
 refine FS (FW (hc A env μ1 _ _ _ ok P1'.good P1'.fr fun v μ2 s2 P2 hv=>?_))
 obtain rfl:v=.ref c:=hv
 refine Fs ?_
 have X2:=P2.good.inK ok
 with_reducible refine Fi (codeAny_call_builtin_code (Code.quiet_builtin _ PySem.F.objNew.quiet) ?_)
 refine (It (M:=model C.prog C.w) X2 (pk _)).here ?_
 with_reducible refine Fg PySem.F.objNew.entry ?_
 obtain ⟨g,h1,h2⟩:=pk2 ⟨C.prog,C.w.params⟩
 have k:aL A0 NoW s2 {s2 with heap:=(s2.heap.push emptyDict).push (Gs c s2.heap.objs.size)}:=ab (tk:=s2.toks) (by simp only [EU];exact Fl (Ej _)) fun b o e=>EM _ (EM _ e)
 have g1:((s2.heap.push emptyDict).push (Gs c s2.heap.objs.size)).get? (s2.heap.objs.size+1)=some (Gs c s2.heap.objs.size):=by
  have:=ES (s2.heap.push emptyDict) (o:=Gs c s2.heap.objs.size) rfl
  rwa [EU] at this
 have g2:((s2.heap.push emptyDict).push (Gs c s2.heap.objs.size)).get? s2.heap.objs.size=some emptyDict:=EM _ (ES _ rfl)
 have' hfp:∀ b∈[s2.heap.objs.size+1,s2.heap.objs.size],s2.heap.objs.size<=b/\b<((s2.heap.push emptyDict).push (Gs c s2.heap.objs.size)).objs.size:=by
  intro b hb
  rcases EV.mp hb with rfl | hb
  ·exact ⟨Ej _,Ed g1⟩
  ·rw [EJ.mp hb];exact ⟨EK _,Ed g2⟩
 have' P3:=aS.alloc (s':={s2 with heap:=(s2.heap.push emptyDict).push (Gs c s2.heap.objs.size)}) (a:=s2.heap.objs.size+1) (o:=.inst c []) P2.good P2.fr k hfp (.head _)
  ⟨_,[],0,rfl,Ij _,g1,g2,trivial⟩
 refine q8 (M:=model C.prog C.w) (o2:=fun D=>Gs c D) (r:=fun D D2=>.done (.ret (.ref D2))) X2 ?_ (fun b o e=>EM _ (X2 _ _ e)) (fun b o e=>k.up _ _ (X2 b o e)) _ g h1 h2
 refine hQ _ _ _ ((P1'.trans P2).trans P3) ⟨(s2.heap.objs.size+1,[s2.heap.objs.size+1,s2.heap.objs.size]),?_,rfl⟩
 show (μ2.objs++[_])[σ₂.length]? = _
 rw [<- P2.good.sim.len];exact EY
structure sf (K:Frag) (c p fN fI:Addr):Prop where
 cls:(K.lookup c).any (fun o=>match o.data with | .cls cd=>!cd.mro.isEmpty && cd.mro.contains (.ref c) | _=>false)=true
 call:JR K (.ref c) "__call__" = some (some (.builtin "type.__call__"))
 typ:instIn K (.ref c) (.type "type")=some true
 made:∀ S,peek K S (Bind.madeBy (.ref c))=some none
 mro:∀ S,peek K S (mroOf (.ref c) >>= fun l=>pure l.isEmpty)=some false
 reads:readsIn K c (.type "type")=true
 new:findCls K (.ref c) (.type "type") "__new__" = some (.get (.builtin "staticmethod.__get__") (.ref p) .none (.ref c))
 stat:(recIn K p "staticmethod").bind (·.head?)=some (.ref fN)
 self:subIn K (.ref c) (.ref c)=some true
 init:findIn K (.ref c) "__init__" = some (some (.ref fI))
 fn:typeIn K (.ref fI)=some (.type "function")
end
section
variable {C:Cx} {m:Nat} {fz:List Nat} {σ σ₁ σ₂:aC} {c p fN fI:Addr} {i:Nat} {xs:List (Str×AV)} {as:List AV} {ks:List (Str×AV)}
set_option tactic.hygienic true in
theorem rQ (O:sf C.K c p fN fI) (hN:aP C m fz (.ref fN) (.con (.ref c) :: as) [] σ (.ref i) σ₁) (hx:σ₁[i]? = some (.inst c xs)) (hci:cE C.K c)
  (hI:aP C m fz (.ref fI) (.ref i :: as) [] σ₁ (.dat .none) σ₂):aP C (m+1) fz (.ref c) as [] σ (.ref i) σ₂:=by
 intro A μ s vs kvs R ok G rv rk hR
 cases kvs with
 | cons _ _=>exact rk.elim
 | nil=>
 have X:=G.inK ok
 obtain ⟨oc,hoc,hcd⟩:=Lw O.cls
 refine Gx ?_
 show wpAny _ _ (Kn (.ref c) _) _ _ _
 obtain ⟨ocls,od,odata,osl⟩:=oc
 cases odata<;>try cases hcd
 rename_i cd
 refine Ls (X _ _ hoc) ?_
 show wpAny _ _ (Kn.viaDunder (.ref c) _) _ _ _
 unfold Kn.viaDunder
 refine ED ((looks_specialIn X O.call).here ?_)
 dsimp only
 rw [tc_bind]
 refine ED (EI (ED (EI ?_)))
 refine EI (a:=Fin.again (.call (.builtin "type.__call__") ⟨.ref c :: vs,[]⟩)) (And.intro rfl ?_)
 refine codeAny_call_builtin_at (Code.quiet_builtin _ (by decide +kernel)) entry_typeCall (@check_slot _ _ _ _ _ _ _ _ _ _ _ tc_kind tc_split (looks_instIn X O.typ) (tc_args _ _ _) ?_)
 obtain ⟨u1,u2,u3,u4⟩:=gX A ⟨.ref c :: vs,[]⟩
 generalize A.under (.builtin "type.__call__" ⟨.ref c :: vs,[]⟩)=A2 at *
 have hroom:=G.room
 have hunits:=G.units
 dsimp only at hroom hunits
 have G2:aX C ⟨true,m,fz⟩ A2 μ σ s:=G.around (fun _=>u1.trans (G.quiet rfl)) rfl (by dsimp only;omega) (by dsimp only;omega) ⟨by rw [u2];exact G.frs.all⟩
 unfold Ep.«type.__call__»
 have hci':clsIn C.K c=some cd:=by unfold clsIn;rw [hoc]
 have e4:cd.mro.isEmpty=false:=by
  dsimp only at hcd;simp only [Ea,GE] at hcd;exact hcd.1
 have' Lm:Looks (model C.prog C.w) s.heap (mroOf (.ref c)) cd.mro:=(Lk X hci').andThen .now
 have' Lb:Looks (model C.prog C.w) s.heap (Bind.madeBy (.ref c)) none:=It X (O.made _)
 refine ED (Lm.here ?_)
 simp only [e4,F6,if_false]
 refine ED (Lb.here ?_)
 obtain ⟨ws,hw,hws⟩:∃ ws,recIn C.K p "staticmethod" = some ws/\ws.head? = some (.ref fN):=Gr.mp O.stat
 obtain ⟨w0,ws⟩:∃ r,ws=.ref fN :: r:=by
  cases ws with | nil=>cases hws | cons a r=>cases hws;exact ⟨r,rfl⟩
 subst ws
 refine ED (cls_bind (s:=s) X O.reads O.new (Fi (sm_get (s:={s with toks:=s.toks+1}) X hw (handed_on rfl ?_))))
 have k1:aL A0 NoW s {s with toks:=s.toks+1}:=ae _
 have G3:=G2.grow k1
 have' rv':ay μ ({s with toks:=s.toks+1}:Shared).heap as vs:=rv
 refine ED (E1 (Fi (hN A2 μ _ (.ref c :: vs) [] _ ok G3 ⟨rfl,rv⟩ rk fun v μ1 s1 G4 x4 k4 r4=>?_)))
 obtain ⟨q,dx,es,n,rfl,hq,e,ne,hd,hr,I⟩:=G4.sim.inst hx r4
 have X1:=G4.inK ok
 have fw:=G3.fw (n:=s.heap.objs.size) fun b hb=>.inl (G3.sim.foot b (WC.foot hb))
 show wpAny _ _ (IL (.ref q.1) (.ref c) >>= _) _ _ _
 unfold IL
 refine ED (ED (I.type.here ((looks_subIn X1 O.self).here ?_)))
 refine ED (E1 (special_fn X1 I O.init O.fn (Fi (hI A2 μ1 s1 (.ref q.1 :: vs) [] _ ok G4 ⟨⟨_,hq,rfl⟩,ay.mono x4 k4 fw rv'⟩ (dE.mono x4 k4 fw rk) fun v μ2 s2 G5 x5 k5 r5=>?_))))
 obtain ⟨as',r5⟩:=r5
 cases r5
 refine EI ?_
 have x0:Ext μ μ1 s.heap.objs.size:=x4
 refine hR _ μ2 s2 (G5.around (fun _=>G.quiet rfl) rfl (by show A.depth+_+_<_;dsimp only;omega) (by show A.units+_+_<_;dsimp only;omega) ⟨by rw [<- u2];exact G5.frs.all⟩) (x0.trans x5 k4.le) ?_ ⟨_,x5.get hq,rfl⟩
 have k4':aL A (WC μ) s s1:=(k1.lift (A:=A) (W:=WC μ)).trans (k4.frames fun b hb=>.inl (by unfold FA at *;rw [<- u2];exact hb)) fun b hb=>.inl hb
 have k5':aL A (WC μ1) s1 s2:=k5.frames fun b hb=>.inl (by unfold FA at *;rw [<- u2];exact hb)
 exact k4'.trans k5' fun b hb=>WC.ext x0 (G4.frz.trans G.frz.symm) hb
end
end
section
open PySem PySem.W PyProof.Rows PySem.Builtin
open PySem.Calls
noncomputable abbrev bc:Obj:={cls:=.type "collections.deque",data:=.fields #[.none,rawInt 0]}
theorem rR:mroOf (.type "collections.deque")=pure [.type "collections.deque",.type "object"]:=by rw [mroOf_type];kernel_rfl
theorem AF:IM (.type "collections.deque") "__new__" = pure (some (.builtin "collections.deque.__new__")):=by rw [Gf,builtinLookup_eq_fast];kernel_rfl
theorem km:IT (.type "collections.deque") (.type "collections.deque")=pure true:=by rw [Gp];kernel_rfl
theorem xk:IM (.type "collections.deque") "__init__" = pure (some (.builtin "collections.deque.__init__")):=by rw [Gf,builtinLookup_eq_fast];kernel_rfl
theorem tP:Slot "collections.deque" "__init__" "collections.deque.__init__" :=
 .of (T := "collections.deque") (name := "__init__") (owner := "collections.deque") (n := "__init__") xk (by decide +kernel) (by decide +kernel) (by decide +kernel)
  (.inl (by decide +kernel)) km
theorem AT:((Manifest.find? "collections.deque").bind (·.mro.findSome? fun t=>(Manifest.find? t).bind fun b=>if b.noNew then some true else if b.attrs.any (·.1 == "__new__") then some false else none)).getD false=false:=by
 rw [IF];kernel_rfl
theorem su:Bind.madeBy (.type "collections.deque")=pure (some "collections.deque.__new__"):=madeBy_type rR AF (by decide +kernel)
theorem oY:checkTypeCall "collections.deque" ⟨[],[]⟩=pure ():=by kernel_rfl
theorem sK:IB "collections.deque.__new__" ⟨[.type "collections.deque"],[]⟩=pure ():=by kernel_rfl
theorem uf:JA table "collections.deque.__new__" = some Ep.«collections.deque.__new__» := HC (by kernel_rfl)
theorem uE:JA table "collections.deque.__init__" = some Ep.«collections.deque.__init__» := HC (by kernel_rfl)
theorem m8:plainId "collections.deque.__new__" = true:=by decide +kernel
theorem xZ:Jm "collections.deque.__init__" = some .slot:=by unfold Jm;rw [IF];kernel_rfl
theorem uU:splitId "collections.deque.__init__" = some ("collections.deque", "__init__"):=by decide +kernel
theorem wy (a:Value):argsOk "collections.deque.__init__" ⟨[a],[]⟩:=by unfold argsOk;kernel_rfl
theorem zw {S:JQ}:(peek1 [] S (Ep.«collections.deque.__new__» ⟨[.type "collections.deque"],[]⟩)).map (·.1)=some bc:=by kernel_rfl
theorem yk {S:JQ} {D:Addr}:((peek1 [] S (Ep.«collections.deque.__new__» ⟨[.type "collections.deque"],[]⟩)).bind fun p=>p.2 D)=some (.done (.ret (.ref D))):=by kernel_rfl
theorem fX {α:Type} {M:Model} {A:Around} {t t':Sem α} {Q:α->Shared->Prop} {E:Value->Shared->Prop} {s:Shared} (e:t=t') (h:wpAny M A t' Q E s):wpAny M A t Q E s:=e▸h
theorem uh (x:Addr):Ep.«collections.deque.__init__» ⟨[.ref x],[]⟩=(setField (.ref x) 0 .none >>= fun zz=>Deque.clear (.ref x) >>= fun zz=>ret .none):=by kernel_rfl
section
variable {prog:Fq} {w:World} {A:Around} {E:Value->Shared->Prop} {s:Shared}
theorem vZ {M:Model} {x:Addr} {Q:Unit->Shared->Prop} (hi:Looks M s.heap (IL (.ref x) (.type "collections.deque")) true) (q:Q () s):wpAny M A (IB "collections.deque.__init__" ⟨[.ref x],[]⟩) Q E s:=
 @check_slot M A E s "collections.deque.__init__" "collections.deque" "__init__" (.ref x) [] [] Q xZ uU hi (wy _) q
theorem qN {Q₁:Value->Shared->Prop} (h:Q₁ (.ref s.heap.objs.size) {s with heap:=s.heap.push bc}) :
  GR (model prog w) A (.call (.builtin "collections.deque.__new__") ⟨[.type "collections.deque"],[]⟩) (wants Q₁ E) s:=by
 refine Gx ?_
 show wpAny _ A.in1 (do IB "collections.deque.__new__" ⟨[.type "collections.deque"],[]⟩;again (.builtin "collections.deque.__new__" ⟨[.type "collections.deque"],[]⟩)) _ _ s
 with_reducible refine ED (GG sK (EI ⟨Hk m8 _,Fg uf ?_⟩))
 rw [Around.under_plainId m8 _]
 have' h1:=zw (S:=⟨prog,w.params⟩)
 obtain ⟨⟨o,g⟩,e1,e2⟩:=FP.mp h1
 dsimp only at e2
 subst e2
 refine jE (K:=[]) (M:=model prog w) (r:=fun D=>.done (.ret (.ref D))) (fun zz zz e=>nomatch e) ?_ (fun zz zz e=>nomatch e) _ g e1 fun D=>?_
 ·exact h
 ·have h2:=yk (S:=⟨prog,w.params⟩) (D:=D)
  rw [e1] at h2
  exact h2
theorem qh {Q:Value->Shared->Prop} (h:∀ h',h'.get? s.heap.objs.size=some bc->G7 s.heap.objs.size (s.heap.push bc) h'->Q (.ref s.heap.objs.size) {s with heap:=h'}) :
  wpAny (model prog w) A (call (.type "collections.deque") []) Q E s:=by
 have hmro:=rR
 have hmade:=su
 have hsub:=km
 refine Fi (Gx ?_)
 show wpAny _ _ (Kn (.type "collections.deque") _) _ _ _
 refine EI ⟨Code.quiet_builtin _ (by decide +kernel),Fg F.entry_type_call ?_⟩
 rw [Around.under_plain (weight_type_call_type "collections.deque" [] []) rfl]
 unfold Ep.«type.__call__»
 dsimp only
 rw [if_neg (by decide +kernel),AT]
 simp only [F6,if_false]
 with_reducible refine ED (GG oY (ED (GG rR ?_)))
 simp only [List.isEmpty_cons,F6,if_false]
 with_reducible refine ED (GG su (ED (EI (ED (E1 (Fi ?_))))))
 refine codeAny_mono (qN (E:=E) (Q₁:=fun obj s₁=>obj=.ref s.heap.objs.size/\s₁={s with heap:=s.heap.push bc}) ⟨rfl,rfl⟩) fun r s₁ hr=>?_
 rcases r with e | (obj | _ | _ | _)<;>first | exact hr | exact hr.elim | skip
 obtain ⟨rfl,rfl⟩:=hr
 have hS:(s.heap.push bc).get? s.heap.objs.size=some bc:=ES _ rfl
 have lt:Looks (model prog w) (s.heap.push bc) (typeOf (.ref s.heap.objs.size)) (.type "collections.deque"):=(I7 hS).andThen .now
 have hi:Looks (model prog w) (s.heap.push bc) (IL (.ref s.heap.objs.size) (.type "collections.deque")) true:=lt.andThen (Fd km)
 have' hs:Looks (model prog w) (s.heap.push bc) (Gk (.ref s.heap.objs.size) "__init__") (some (.builtin "collections.deque.__init__")):=lt.andThen (Fd xk)
 show wpAny _ _ (IL (.ref s.heap.objs.size) (.type "collections.deque") >>= _) _ _ _
 with_reducible refine ED (hi.here ?_)
 refine ED (E1 (ED (hs.here (E1 (ED (GG (tP.bind _) ?_))))))
 with_reducible refine ED (Fi (GX tP.plain uE (vZ hi ?_)))
 refine fX (uh _) ?_
 with_reducible refine ED (J5 (s:={s with heap:=s.heap.push bc}) hS (by decide) fun h' g1 sb=>ED ?_)
 unfold Deque.clear Deque.items
 refine ED (ED (ED (KP g1 (EI (EI ?_)))))
 exact EI (EI (EI (EI (h h' g1 sb))))
end
section
variable {C:Cx} {lv:Lv} {N:aF} {ρ:aO} {σ:aC} {np pos:Pos}
theorem uS {x:Str} (hf:aG C lv N (.Name x np) ρ σ (.con (.type "collections.deque")) ρ σ):aG C lv N (.Call (.Name x np) [] [] pos) ρ σ (.ref σ.length) ρ (σ++[.raw bc]):=by
 intro A env μ s Q E ok G F hQ
 refine GL (hf A env μ s _ _ ok G F fun v μ1 s1 P1 hv=>?_)
 obtain rfl:=hv
 refine PySem.callWith_type rfl (PySem.evalArgs_none ?_)
 refine qh fun h' g1 sb=>?_
 have hl:h'.objs.size=s1.heap.objs.size+1:=by rw [sb.1,EU]
 have k1:aL A0 NoW s1 {s1 with heap:=h'}:=ab (tk:=s1.toks) (by show _<=h'.objs.size;omega) fun b o e=>(sb.2 b (FG (Ed e))).trans (EM _ e)
 have P:=aS.alloc (a:=s1.heap.objs.size) (fp:=[s1.heap.objs.size]) (o:=.raw bc) P1.good P1.fr k1 (fun b hb=>by rw [EJ.mp hb];exact ⟨EK _,by show _<h'.objs.size;omega⟩) (.head _) ⟨rfl,g1⟩
 exact hQ _ _ _ (P1.trans P) ⟨_,by show (μ1.objs++[_])[σ.length]? = _;rw [<- P1.good.sim.len];exact EY,rfl⟩
end
end
section
open PySem PySem.W PyProof.Rows PySem.Builtin
open PySem.Calls
theorem um:IM (.type "collections.deque") "__bool__" = pure none:=by rw [Gf,builtinLookup_eq_fast];kernel_rfl
theorem xc:IM (.type "collections.deque") "__len__" = pure (some (.builtin "collections.deque.__len__")):=by rw [Gf,builtinLookup_eq_fast];kernel_rfl
theorem p6:Slot "collections.deque" "__len__" "collections.deque.__len__" :=
 .of (T := "collections.deque") (name := "__len__") (owner := "collections.deque") (n := "__len__") xc (by decide +kernel) (by decide +kernel) (by decide +kernel) (.inl (by rw [IF];kernel_rfl)) km
theorem vR:JA table "collections.deque.__len__" = some Ep.«collections.deque.__len__» := HC (by kernel_rfl)
theorem yG:Jm "collections.deque.__len__" = some .slot:=by unfold Jm;rw [IF];kernel_rfl
theorem vG:splitId "collections.deque.__len__" = some ("collections.deque", "__len__"):=by decide +kernel
theorem xo (a:Value):argsOk "collections.deque.__len__" ⟨[a],[]⟩:=by unfold argsOk;kernel_rfl
theorem xB (x:Addr):Ep.«collections.deque.__len__» ⟨[.ref x],[]⟩=(Deque.size (.ref x) >>= fun n=>retInt n):=by kernel_rfl
section
variable {prog:Fq} {w:World} {A:Around} {E:Value->Shared->Prop} {s:Shared}
theorem qk {a:Addr} {Q:Bool->Shared->Prop} (ho:s.heap.get? a=some bc) (h:∀ k,Q false {s with toks:=s.toks+k}):wpAny (model prog w) A (truthy (.ref a)) Q E s:=by
 have lt:Looks (model prog w) s.heap (typeOf (.ref a)) (.type "collections.deque"):=(I7 ho).andThen .now
 have' lb:Looks (model prog w) s.heap (Gk (.ref a) "__bool__") none:=lt.andThen (Fd um)
 have ll:Looks (model prog w) s.heap (Gk (.ref a) "__len__") (some (.builtin "collections.deque.__len__")):=lt.andThen (Fd xc)
 have' hi:Looks (model prog w) s.heap (IL (.ref a) (.type "collections.deque")) true:=lt.andThen (Fd km)
 have' key:wpAny (model prog w) A (runValue (.builtin "len" ⟨[.ref a],[]⟩)) (fun r s'=>r=.int 0 (s.toks+1)/\Q false s') E s:=by
  refine wpAny_runValue (Fg entry_len ?_)
  rw [Around.under_plainId plain_len _]
  unfold Ep.«len» L6;refine ED (m:=oneArg "len" _) (EI (ED (ED (ll.here (E1 (ED (GG (p6.bind _) ?_)))))));refine ED (Fi (GX p6.plain vR (@check_slot (model prog w) _ _ s "collections.deque.__len__" "collections.deque" "__len__" (.ref a) [] [] _ yG vG hi (xo _) ?_)));refine fX (xB _) ?_;unfold Deque.size
  refine ED (ED (ED (KP ho (EI (EI ?_)))));refine ED (wpAny_mkInt (EI (EI (ED (E1 (EI (ED (wpAny_letGo ?_))))))));exact ED (wpAny_mkInt (EI ⟨rfl,h 2⟩))
 unfold truthy
 show wpAny _ _ (L6 (.ref a) "__bool__" >>= _) _ _ _
 unfold L6
 refine ED (ED (lb.here (EI (ED (ll.here ?_)))))
 exact ED (Es key (fun r s' h'=>by obtain ⟨rfl,hq⟩:=h';exact EI hq) fun zz zz e=>e)
end
section
variable {C:Cx} {lv:Lv} {N:aF} {ρ ρ₁:aO} {σ σ₁:aC} {i:Nat}
theorem gk {e:Expr} (h:aG C lv N e ρ σ (.ref i) ρ₁ σ₁) (hx:σ₁[i]? = some (.raw bc)) (he:autoParam (∀ env,isTrue e env (eval e env)=(do let v <- eval e env;HT e.pos;Hx [v] (truthy v))) aI) :
  aY C lv N e ρ σ false ρ₁ σ₁:=fun A env μ s Q E ok G F hQ=>
 LV (h A env μ s _ _ ok G F fun v μ1 s1 P1 ⟨p,hp,hv⟩=>by
  subst hv;exact qk (P1.good.sim.rep i p _ hp hx).2 fun k=>hQ μ1 _ (P1.trans (aS.grow P1.good P1.fr (ae _)))) (he env)
theorem wF {x:Str}:fH C lv σ (.builtin "isinstance") [.dat (.str x),.con (.type "str")] (.bool true):=
 mf (Tx := "str") (by show pure (Fa ((Manifest.find? "str").elim "type" fun x=>x.metatype))=_;rw [IF];kernel_rfl) (by rw [Gp];kernel_rfl) fun h v as s e r=>by
  cases r using RS with
  | str t=>exact LJ _ _ _
theorem bQ.kw {fd:Hr} {as:List AV} {k:Str} {b:AV} (bs:List Value->Value->List (Str×Value)) (abs:List (Str×AV)) (hp:∀ vs w,vs.length=as.length->∀ S,peek C.K S (Jz fd ⟨vs,[(k,w)]⟩)=some (bs vs w))
  (hr:∀ μ h vs w,ay μ h as vs->af μ h b w->dE μ h abs (bs vs w)):bQ C fd as [(k,b)] abs:=
 .of_peek fun μ h vs kvs r rk=>by
  obtain ⟨w,rfl,rw⟩:=rk.e1;exact ⟨_,hp vs w (bP r),hr μ h vs w r rw⟩
end
end
inductive LS where
 | S | A | Q | D | E
deriving DecidableEq
noncomputable def LS.str:LS->PyData
 | .S=>.str " " | .A=>.str "a" | .Q=>.str "'" | .D=>.str "\"" | .E=>.none
noncomputable def mQ (c:Nat):Bool:=c==97 || c==98 || c==99 || c==100 || c==101
noncomputable def yy (c:Nat):Bool:=mQ c || c==32 || c==34 || c==39 || c==59
noncomputable def gw (st:LS) (c:Nat) (tok:Str) (q:Bool):Option (LS×Str×Bool):=match st with
 | .S=>if mQ c then some (.A,c8 c,q) else if c=39 then some (.Q,tok,q) else none
 | .A=>if c=39 then some (.Q,tok,q) else if c=34 then some (.D,tok,q) else if mQ c then some (.A,tok++c8 c,q) else none
 | .Q=>if yy c then (if c=39 then some (.A,tok,true) else some (.Q,tok++c8 c,true)) else none
 | .D=>if yy c then (if c=34 then some (.A,tok,true) else some (.D,tok++c8 c,true)) else none
 | .E=>none
noncomputable def eG:List Nat->LS->Str->Bool->Option (Nat×LS×Str×Bool)
 | [],.A,tok,q=>some (0,.E,tok,q)
 | [],.E,_,q=>some (0,.E, "",q)
 | [],_,_,_=>none
 | c :: cs,st,tok,q=>if st=.A/\c=32 then (if tok.length != 0 || q then some (1,.S,tok,q) else none)
   else match gw st c tok q with
    | some (st',tok',q')=>(eG cs st' tok' q').map fun r=>(r.1+1,r.2)
    | none=>none
section
variable {C:Cx} {lv:Lv} {N:aF} {test:Expr} {body orelse:List Stmt} {x:Str} {ρs:Bool->aO} {σs:Nat->LS->Str->aC}
theorem kM (c:Nat):(c8 c).length=1:=rfl
theorem pV (a b:Str):(a++b).length=a.length+b.length:=Array.size_append
theorem pR {st st':LS} {c:Nat} {tok tok':Str} {q q':Bool} (h:gw st c tok q=some (st',tok',q')):(tok'=c8 c\/tok'=tok\/tok'=tok++c8 c)/\st'≠.E:=by
 unfold gw at h
 repeat' split at h
 all_goals cases h
 all_goals exact ⟨by first | exact .inl rfl | exact .inr (.inl rfl) | exact .inr (.inr rfl),fun q=>nomatch q⟩
theorem uR {st st':LS} {c p:Nat} {tok tok':Str} {q q':Bool} (h:gw st c tok q=some (st',tok',q')) (hl:tok.length<=p):tok'.length<=p+1:=by
 rcases (pR h).1 with rfl | rfl | rfl
 ·rw [kM];exact JD 1 p
 ·exact Fl hl
 ·rw [pV,kM];exact GK hl
set_option tactic.hygienic true in
theorem ka (ht:∀ q p st tok,aY C lv N test (ρs q) (σs p st tok) true (ρs q) (σs p st tok))
  (tS:∀ p c st tok q st' tok' q',x.cps[p]? = some c->tok.length<=p->¬ (st=.A/\c=32)->gw st c tok q=some (st',tok',q')->∃ ρ₂ o,aw C lv N body (ρs q) (σs p st tok) o ρ₂ (σs (p+1) st' tok')/\(o=.nxt\/o=.cnt)/\Sub ρ₂ (ρs q'))
  (tB:∀ p tok q,x.cps[p]? = some 32->tok.length<=p->(tok.length != 0 || q)=true->∃ ρ₂,aw C lv N body (ρs q) (σs p .A tok) .brk ρ₂ (σs (p+1) .S tok)/\Sub ρ₂ (ρs q))
  (tE:∀ p tok q,x.length<=p->∃ ρ₂,aw C lv N body (ρs q) (σs p .A tok) .brk ρ₂ (σs p .E tok)/\Sub ρ₂ (ρs q))
  (tN:∀ p tok q,x.length<=p->∃ ρ₂,aw C lv N body (ρs q) (σs p .E tok) .brk ρ₂ (σs p .E "")/\Sub ρ₂ (ρs q)) :
  ∀ (cs:List Nat) (p:Nat) (st:LS) (tok:Str) (q:Bool) (r:Nat×LS×Str×Bool),x.cps.toList.drop p=cs->tok.length<=p->eG cs st tok q=some r->∃ ρ₂,eU C lv N test body orelse cs.length (ρs q) (σs p st tok) .nxt ρ₂ (σs (p+r.1) r.2.1 r.2.2.1)/\Sub ρ₂ (ρs r.2.2.2):=by
 intro cs
 induction cs with
 | nil=>
  intro p st tok q r hd hl hs;have hp:x.length<=p:=by
   have:=Ke.mp hd
   rw [FQ] at this;exact this
  cases st<;>simp only [eG] at hs<;>cases hs
  ·obtain ⟨ρ₂,h,s⟩:=tE p tok q hp
   exact ⟨ρ₂,.brk (ht _ _ _ _) h,s⟩
  ·obtain ⟨ρ₂,h,s⟩:=tN p tok q hp
   exact ⟨ρ₂,.brk (ht _ _ _ _) h,s⟩
 | cons c cs ka=>
  intro p st tok q r hd hl hs;have hc:x.cps[p]? = some c:=by
   have:=congrArg (fun l=>l[0]?) hd
   simpa using this
  have hd':x.cps.toList.drop (p+1)=cs:=by rw [<- List.tail_drop,hd];rfl
  unfold eG at hs
  split at hs
  ·rename_i h
   obtain ⟨rfl,rfl⟩:=h
   split at hs
   ·rename_i h2
    cases hs
    obtain ⟨ρ₂,h,s⟩:=tB p tok q hc hl h2;exact ⟨ρ₂,.brk (ht _ _ _ _) h,s⟩
   ·cases hs
  ·rename_i h
   cases e:gw st c tok q with
   | none=>rw [e] at hs;cases hs
   | some r'=>
    obtain ⟨st',tok',q'⟩:=r'
    rw [e] at hs
    obtain ⟨r1,h1,rfl⟩:=FP.mp hs;obtain ⟨ρ₂,o,hb,ho,hsub⟩:=tS p c st tok q st' tok' q' hc hl h e;obtain ⟨ρ₃,hw,s3⟩:=ka (p+1) st' tok' q' r1 hd' (uR e hl) h1;refine ⟨ρ₃,.turn (ht _ _ _ _) hb ho hsub ?_,s3⟩
    rw [show p+(r1.1+1)=p+1+r1.1 by omega]
    exact hw
end
noncomputable def toks:Nat->List Nat->LS->Option (List Str)
 | 0,_,_=>none
 | k+1,cs,st=>match eG cs st "" false with
  | none=>none
  | some (n,st',t,q)=>if !q && t.length==0 then some [] else (toks k (cs.drop n) st').map (t :: ·)
noncomputable def dP:Nat->List Nat->LS->Nat×LS
 | 0,_,st=>(0,st)
 | j+1,cs,st=>match eG cs st "" false with
  | none=>(0,st)
  | some (n,st',_,_)=>(n+(dP j (cs.drop n) st').1,(dP j (cs.drop n) st').2)
set_option tactic.hygienic true in
theorem oF:∀ (k:Nat) (cs:List Nat) (st:LS) (ws:List Str),toks k cs st=some ws->∀ j,(∀ w,ws[j]? = some w->∃ n st' q,eG (cs.drop (dP j cs st).1) (dP j cs st).2 "" false=some (n,st',w,q)/\(!q && w.length==0)=false/\dP (j+1) cs st=((dP j cs st).1+n,st')) /\
  (j=ws.length->∃ n st' w q,eG (cs.drop (dP j cs st).1) (dP j cs st).2 "" false=some (n,st',w,q)/\(!q && w.length==0)=true):=by
 intro k
 induction k with
 | zero=>intro _ _ _ h;cases h
 | succ k oF=>
  intro cs st ws h j;unfold toks at h
  cases e:eG cs st "" false with
  | none=>rw [e] at h;cases h
  | some r=>
   obtain ⟨n,st',t,q⟩:=r
   rw [e] at h
   dsimp only at h
   split at h
   ·rename_i hq
    cases h
    refine ⟨fun w hw=>(by cases hw),fun hj=>?_⟩
    obtain rfl:j=0:=hj;exact ⟨n,st',t,q,by simpa [dP] using e,hq⟩
   ·rename_i hq
    obtain ⟨ws',h',rfl⟩:=FP.mp h
    cases j with
    | zero=>
     refine ⟨fun w hw=>?_,fun hj=>(by cases hj)⟩
     cases hw
     exact ⟨n,st',q,by simpa [dP] using e,by simpa using hq,by simp [dP,e]⟩
    | succ j=>
     have ih:=oF (cs.drop n) st' ws' h' j;have' e1:dP (j+1) cs st=(n+(dP j (cs.drop n) st').1,(dP j (cs.drop n) st').2):=by simp only [dP,e]
     have e2:dP (j+1+1) cs st=(n+(dP (j+1) (cs.drop n) st').1,(dP (j+1) (cs.drop n) st').2):=by rw [dP];simp only [e]
     rw [e1,e2]
     dsimp only
     rw [<- List.drop_drop]
     refine ⟨fun w hw=>?_,fun hj=>ih.2 (by simpa using hj)⟩
     obtain ⟨n2,st2,q2,a,b,c⟩:=ih.1 w (by simpa using hw)
     exact ⟨n2,st2,q2,a,b,by rw [c,FC]⟩
section
open Lean in
local macro_rules
  | `(tactic| wtm_at $s:str)=>wt tab s.getString
  | `(tactic| refine' $t)=>match ax t with | some s=>return s | none=>Macro.throwUnsupported
noncomputable abbrev nD (n:Nat):PyData:=.int (n:Int)
noncomputable def be (r:List Nat):PyData:=.list (r.map nD)
noncomputable def dB (b:Nat->Nat->Bool):PyData:=.list ((EQ 4).map fun i=>.list ((EQ 4).map fun j=>.bool (b i j)))
noncomputable def wd (i:Nat):PyData:=([.str "a",.str "b c",.str "",.str "d;e"]:List PyData).getD i .none
theorem B6 {i:Nat} (h4:i<4):([.str "a",.str "b c",.str "",.str "d;e"]:List PyData)[((i:Int)).toNat]? = some (wd i):=by
 have:i=0\/i=1\/i=2\/i=3:=by omega
 rcases this with rfl | rfl | rfl | rfl<;>rfl
theorem dZ {α:Type} {xs:List α} {g:α->PyData}:(xs.map g).map AV.dat=xs.map fun x=>AV.dat (g x):=by rw [ET];rfl
theorem Ad {a b:Nat}:((a:Int)==(b:Int))=(a==b):=by rw [FY,beq_iff_eq,beq_iff_eq];omega
theorem gC {row:List Nat} {p:Nat} (h:p<row.length):(row.map nD)[((p:Int)).toNat]? = some (.int (row.getD p 0:Nat)):=by
 simp [h,nD,GN]
theorem iq {b:Nat->Nat->Bool} {i:Nat} (h:i<4):((EQ 4).map fun i=>GY ((EQ 4).map fun j=>.bool (b i j)))[((i:Int)).toNat]? = some (.list ((EQ 4).map fun j=>.bool (b i j))):=by
 simp [h]
theorem jP {b:Nat->Bool} {i:Nat} (h:i<4):((EQ 4).map fun j=>Jn (b j))[((i:Int)).toNat]? = some (.bool (b i)):=by
 simp [h]
section
variable {C:Cx} (H:bH C) {fz:List Nat} {σ:aC}
include H
theorem kQ {is:List Nat} (hi:∀ i∈is,i<4) (hz:is.length<=1000):aP C 2 fz (.ref 913) [.dat (be is)] [] σ (.dat (.list (is.map wd))) σ:=by
 unfold be
 wtm_at "Dp"
 case hr=>exact .ret
 case h=>
  dsimp only;refine' a8 (aT ?e)
  case e=>
   wtm_at "Dc"
   case hz=>rw [EF,ER];omega
   case hc=>
    rw [dZ]
    refine' cN rfl ?ha ?he ?hs
    case ha=>intro i hx;wtm_at "Ma"
    case he=>
     intro i hx;have h0:(0:Int)<=(i:Int):=E7 i;have h4:(i:Int)<2 ^ 63:=by have:=hi i hx;omega
     have hd:=B6 (hi i hx);wtm_at "Me"
    case hs=>intro i hx;wtm_at "Msub"
noncomputable def em (row:List Nat) (p:Nat):List Nat:=row.take p++[row.getD (p+1) 0,row.getD p 0]++row.drop (p+2)
theorem vJ {row:List Nat} {p:Nat} (hp:p+1<row.length) (hz:row.length<=1000):aP C 2 fz (.ref 957) [.dat (be row),.dat (.int p)] [] σ (.dat (be (em row p))) σ:=by
 unfold be
 wtm_at "Dp"
 case hr=>exact .ret
 case h=>
  dsimp only;refine' a8 (aT ?e)
  case e=>
   have hl:(row.map nD).length<=FI:=by rw [EF,ER];omega
   have h0:(0:Int)<=(p:Int):=E7 p;have h1:(p:Int)<2 ^ 63:=by omega
   have h2:(0:Int)<=(p:Int)+1:=by omega
   have h3:(p:Int)+1<2 ^ 63:=by omega
   have e1:=gC (row:=row) (p:=p) (by omega)
   have e2:(row.map nD)[((p:Int)+1).toNat]? = some (.int (row.getD (p+1) 0:Nat)):=gC (row:=row) (p:=p+1) hp;have' e:AV.dat (.list ((em row p).map nD))=AV.dat (.list ((di (row.map nD) none (some p)++[.int (row.getD (p+1) 0:Nat),.int (row.getD p 0:Nat)])++di (row.map nD) (some (p+2)) none)):=by
    simp [em,di,nD]
   rw [e]
   refine' cx ?a1 ?a2 ?a3
   case a1=>
    refine' cx ?b1 ?b2 ?b3
    case b1=>wtm_at "Me"
    case b2=>
     refine' fT ?k1 ?k2 ?k3
     case k1=>wtm_at "Ml"
     case k2=>wtm_at "Mdats"
     case k3=>wtm_at "Mside"
    case b3=>exact OpG.of2 (kb (by simp [di,ER];omega))
   case a2=>wtm_at "Me"
   case a3=>exact OpG.of2 (kb (by simp [di,ER];omega))
end
noncomputable def dv (b:Nat->Nat->Bool):List (Nat×Nat):=(EQ 4).flatMap fun i=>(((EQ (4 - i)).map fun j=>i+j).filter fun j=>b i j).map fun j=>(i,j)
theorem mq {β:Type} (b:Nat->Nat->Bool) (f:Nat->Nat->β):((EQ 4).flatMap fun i=>(((EQ (4 - i)).map fun j=>i+j).filter fun j=>b i j).map (f i)).length<=16:=by
 have h:∀ i,((((EQ (4 - i)).map fun j=>i+j).filter fun j=>b i j).map (f i)).length<=4:=fun i=>by
  rw [EF]
  refine EH (FL _ _) ?_
  rw [EF,FV];omega
 rw [show EQ 4=[0,1,2,3] from rfl]
 simp only [List.flatMap_cons,List.flatMap_nil,EX,KX]
 have h0:=h 0;have h1:=h 1;have h2:=h 2;have h3:=h 3
 omega
noncomputable def au (row:List Nat) (b:Nat->Nat->Bool):List (List Nat):=(dv b).map fun p=>row.filter fun x=>p.1==x || p.2==x
noncomputable def gK (r:List (List Nat)):PyData:=.list (r.map be)
theorem dG {n:Nat}:jC 0 n=(EQ n).map fun (i:Nat)=>AV.dat (.int (i:Int)):=by
 unfold jC;exact FR fun i zz=>by rw [Int.zero_add]
theorem xf {c n:Nat}:jC (c:Int) n=((EQ n).map fun i=>c+i).map fun (i:Nat)=>AV.dat (.int (i:Int)):=by
 unfold jC;rw [ET];exact FR fun i zz=>by simp
section
variable {C:Cx} {lv:Lv} {N:aF} {ρ ρ₁:aO} {σ:aC}
theorem tH {α β:Type} {elt:Expr} {g g':Eu} {xs:List α} {v:α->AV} {r:α->aO} {ys:α->List β} {w:β->AV} {ds:α->List PyData} (hn:g.ifs=[]) (ha:∀ x∈xs,ci C lv N g.target (v x) ρ σ (r x) σ)
  (hi:∀ x∈xs,gO C lv N g'.target g'.iter [] (r x) σ ((ys x).map w) (r x) σ) (hf:∀ env x,Fu g'.iter env x=pure x) (hc:∀ x∈xs,Cl C lv N elt σ [g'] ((ys x).map w) (r x) (ds x)) (hs:∀ x∈xs,Sub (r x) ρ) :
  Cl C lv N elt σ [g,g'] (xs.map v) ρ (xs.flatMap ds):=by
 induction xs with
 | nil=>exact .nil
 | cons x xs ih=>
  rw [E9,List.flatMap_cons]
  exact .deep (ha x (.head _)) (by rw [hn];exact mh) (hi x (.head _)) hf (hc x (.head _)) (hs x (.head _)) (ih (fun y hy=>ha y (.tail _ hy)) (fun y hy=>hi y (.tail _ hy)) (fun y hy=>hc y (.tail _ hy)) fun y hy=>hs y (.tail _ hy))
end
section
variable {C:Cx} (H:bH C) {fz:List Nat} {σ:aC}
include H
theorem rF {row:List Nat} {b:Nat->Nat->Bool} (hz:row.length<=1000):aP C 2 fz (.ref 940) [.dat (be row),.dat (dB b)] [] σ (.dat (gK (au row b))) σ:=by
 unfold be dB
 wtm_at "Dp"
 case hr=>exact .ret
 case h=>
  dsimp only;refine' aA ?s1 ?s2
  case s1=>
   wtm_at "Da"
   case hc=>
    rw [dG]
    refine' tH (ys:=fun (i:Nat)=>(EQ (4 - i)).map fun j=>i+j) (w:=fun (j:Nat)=>AV.dat (.int (j:Int))) (ds:=fun (i:Nat)=>(((EQ (4 - i)).map fun j=>i+j).filter fun j=>b i j).map fun (j:Nat)=>L7 [.int (i:Int),.int (j:Int)]) rfl ?ha ?hi ?hf ?hc ?hs
    case ha=>intro i hx;wtm_at "Ma"
    case hf=>intro _ _;rfl
    case hs=>intro i hx;wtm_at "Msub"
    case hi=>
     intro i hx;have hi4:i<4:=by simpa using hx
     have' e:((EQ (4 - i)).map (fun j=>i+j)).map (fun (j:Nat)=>AV.dat (.int (j:Int)))=jC (i:Int) ((4:Int) - (i:Int)).toNat:=by
      rw [show ((4:Int) - (i:Int)).toNat=4 - i by omega,xf]
     rw [e]
     have h1:(i:Int)<2 ^ 62:=by omega
     have h2:-(2 ^ 62)<=(i:Int):=by omega
     wtm_at "Mi"
    case hc=>
     intro i hx;have' hi4:i<4:=by simpa using hx
     refine' cT ?ha ?ht ?he ?hs
     case ha=>intro j hj;wtm_at "Ma"
     case hs=>intro j hj;wtm_at "Msub"
     case ht=>
      intro j hj;have hj4:j<4:=by simp at hj;omega
      have e1:=iq (b:=b) hi4;have e2:=jP (b:=b i) hj4;have h0:(0:Int)<=(i:Int):=E7 i;have h1:(i:Int)<2 ^ 63:=by omega
      have h2:(0:Int)<=(j:Int):=E7 j;have h3:(j:Int)<2 ^ 63:=by omega
      refine' cm ?x
      case x=>wtm_at "Mt"
     case he=>intro j hj hp;wtm_at "Me"
   case hz=>
    exact EH (mq _ _) (by rw [ER];decide)
  case s2=>
   refine' a8 (aT ?e)
   case e=>
    have e:gK (au row b)=.list ((dv b).map fun p=>be (row.filter fun x=>p.1==x || p.2==x)):=by
     unfold gK au;rw [ET];rfl
    rw [e]
    have' e2:((EQ 4).flatMap fun (i:Nat)=>(((EQ (4 - i)).map fun j=>i+j).filter fun j=>b i j).map fun (j:Nat)=>L7 [.int (i:Int),.int (j:Int)])=(dv b).map fun p=>L7 [.int (p.1:Int),.int (p.2:Int)]:=by
     unfold dv
     rw [List.map_flatMap]
     exact congrArg (fun f=>(EQ 4).flatMap f) (funext fun i=>by rw [ET];rfl)
    rw [show Hv 4=4 from rfl,e2]
    wtm_at "Dc"
    case hz=>rw [EF,ER];exact EH (mq b fun i j=>(i,j)) (by decide:16<=16777216)
    case hc=>
     rw [dZ]
     refine' cN rfl ?ha ?he ?hs
     case ha=>intro p hp;wtm_at "Ma"
     case hs=>intro p hp;wtm_at "Msub"
     case he=>
      intro p hp;unfold be;wtm_at "Dc"
      case hz=>rw [EF,ER];exact EH (FL _ _) (by omega)
      case hc=>
       rw [dZ]
       refine' cT ?ha ?ht ?he ?hs
       case ha=>intro x hx;wtm_at "Ma"
       case hs=>intro x hx;wtm_at "Msub"
       case ht=>
        intro x hx;refine' cm ?x
        case x=>
         have' e:(p.1==x || p.2==x)=([Fz (p.1:Int),.int (p.2:Int)].any fun y=>FF y (nD x)):=by
          simp only [nD,IE,List.any_nil,FF,Ad,LB]
         rw [e]
         wtm_at "Mt"
       case he=>intro x hx hp;wtm_at "Me"
end
theorem rg {α:Type} {l:List α} {f:α->PyData} {k:Nat}:di (l.map f) (some k) none=(l.drop k).map f:=by simp [di,Jv]
theorem uH {α:Type} {l:List α} {f:α->PyData} {a b:Nat}:di (l.map f) (some a) (some b)=((l.take b).drop a).map f:=by simp [di,Jv,Iu]
theorem k9 {α:Type} {xs:List α} {p:α->Bool}:(!((xs.filter p).map fun zz=>Fz 1).isEmpty)=xs.any p:=by
 induction xs with
 | nil=>rfl
 | cons x xs ih=>cases h:p x<;>simp [h]<;>simpa using ih
noncomputable def qQ (b:Nat->Nat->Bool) (rs:List (List Nat)) (p a:Nat):Bool:=
 !(((rs.getD p []).drop (a+1)).any fun o=>b ((rs.getD p []).getD a 0) o) && (p==0 || (rs.getD (p - 1) []).any fun o=>b ((rs.getD p []).getD a 0) o)
noncomputable def gy (b:Nat->Nat->Bool) (rs:List (List Nat)):Bool:=(EQ rs.length).all fun p=>(EQ (rs.getD p []).length).all fun a=>qQ b rs p a
theorem m3 {rs:List (List Nat)} {p:Nat} (h:p<rs.length):(rs.map fun r=>GY (r.map nD))[((p:Int)).toNat]? = some (.list ((rs.getD p []).map nD)):=by
 simp [h,GN]
theorem gz {r:List Nat} {a:Nat} (h:∀ x∈r,x<4):r.getD a 0<4:=by
 rw [GN]
 cases e:r[a]? with
 | none=>simp
 | some x=>simp;exact h x (EN e)
theorem pK {rs:List (List Nat)} {p:Nat} (h:∀ r∈rs,∀ x∈r,x<4):∀ x∈rs.getD p [],x<4:=by
 rw [GN]
 cases e:rs[p]? with
 | none=>simp
 | some r=>exact h r (EN e)
theorem qI {rs:List (List Nat)} {p:Nat} (h:∀ r∈rs,r.length<=1000):(rs.getD p []).length<=1000:=by
 rw [GN]
 cases e:rs[p]? with
 | none=>simp
 | some r=>exact h r (EN e)
section
variable {C:Cx} (H:bH C) {fz:List Nat} {σ:aC}
include H
theorem vD {rs:List (List Nat)} {b:Nat->Nat->Bool} (hr4:∀ r∈rs,∀ x∈r,x<4) (hl:rs.length<=1000) (hrl:∀ r∈rs,r.length<=1000) :
  aP C 2 fz (.ref 945) [.dat (.list (rs.map be)),.dat (dB b)] [] σ (.dat (.bool (gy b rs))) σ:=by
 unfold be dB
 have hrd:(rs.map fun r=>GY (r.map nD)).length=rs.length:=by rw [EF]
 wtm_at "Dp"
 case hr=>exact .ret
 case h=>
  dsimp only;refine' jz (okk:=(EQ rs.length).all (fun p=>(EQ (rs.getD p []).length).all fun a=>qQ b rs p a)) (rv:=.dat (.bool false)) ?s ?r ?o
  case o=>intro e;unfold gy;rw [e]
  case s=>
   refine' bf (ls:=[]) ?hi ?hf
   case hi=>
    have h1:(((rs.map fun r=>GY (r.map nD)).length:Nat):Int)<2 ^ 62:=by rw [hrd];omega
    have h2:-(2 ^ 62)<=(((rs.map fun r=>GY (r.map nD)).length:Nat):Int):=by omega
    have h3:(((rs.map fun r=>GY (r.map nD)).length:Nat):Int)<2 ^ 63:=by omega
    wtm_at "Mi"
   case hf=>
    rw [show ((((rs.map fun r=>GY (r.map nD)).length:Nat):Int)).toNat=rs.length by rw [hrd];omega,dG]
    dsimp only [EZ];refine' er ?ha ?hb
    case ha=>intro p hp;wtm_at "Ma"
    case hb=>
     intro p hp;have' hp':p<rs.length:=by simpa using hp
     have' e1:=m3 hp';have h0:(0:Int)<=(p:Int):=E7 p;have h1:(p:Int)<2 ^ 63:=by omega
     have hst4:=pK (p:=p) hr4;have hstl:=qI (p:=p) hrl;have hsd:((rs.getD p []).map nD).length=(rs.getD p []).length:=by rw [EF]
     refine' aw.sub (aA ?s1 (aE ?s2)) ?sb
     case s1=>
      refine' aB ?v ?t
      case v=>wtm_at "Me"
      case t=>wtm_at "Ma"
     case s2=>
      refine' bf (ls:=[]) ?hi ?hf
      case hi=>
       have h1:((((rs.getD p []).map nD).length:Nat):Int)<2 ^ 62:=by rw [hsd];omega
       have h2:-(2 ^ 62)<=((((rs.getD p []).map nD).length:Nat):Int):=by omega
       have h3:((((rs.getD p []).map nD).length:Nat):Int)<2 ^ 63:=by omega
       wtm_at "Mi"
      case hf=>
       rw [show (((((rs.getD p []).map nD).length:Nat):Int)).toNat=(rs.getD p []).length by rw [hsd];omega,dG]
       dsimp only [EZ];refine' er ?ha ?hb
       case ha=>intro a ha;wtm_at "Ma"
       case hb=>
        intro a ha;have' ha':a<(rs.getD p []).length:=by simpa using ha
        have' hx4:=gz (a:=a) hst4;have' e2:=gC ha';have e3:=iq (b:=b) hx4;have a0:(0:Int)<=(a:Int):=E7 a;have a1:(a:Int)<2 ^ 63:=by omega
        have x0:(0:Int)<=(((rs.getD p []).getD a 0:Nat):Int):=E7 _;have x1:(((rs.getD p []).getD a 0:Nat):Int)<2 ^ 63:=by omega
        have hsl:((rs.getD p []).map nD).length<=FI:=by rw [hsd,ER];omega
        generalize hc1:((rs.getD p []).drop (a+1)).any (fun o=>b ((rs.getD p []).getD a 0) o)=c1
        have hok:qQ b rs p a=(!c1 && (p==0 || (rs.getD (p - 1) []).any fun o=>b ((rs.getD p []).getD a 0) o)):=by unfold qQ;rw [hc1]
        rw [hok]
        refine' aw.sub (gF (c:=c1) (rv:=.dat (.bool false)) ?t1 ?e1 ?o1 ?r1) ?sb2
        case sb2=>wtm_at "Msub"
        case e1=>intro _;wtm_at "Me"
        case o1=>intro e;rw [e];rfl
        case t1=>
         rw [<- hc1,<- k9]
         refine' bV ?cmp (fY ?sz) ?he
         case he=>intro _;rfl
         case sz=>rw [EF];have:=FL (fun o=>b ((rs.getD p []).getD a 0) o) ((rs.getD p []).drop (a+1));rw [KG] at this;omega
         case cmp=>
          wtm_at "Dc"
          case hz=>rw [EF,ER];have:=FL (fun o=>b ((rs.getD p []).getD a 0) o) ((rs.getD p []).drop (a+1));rw [KG] at this;omega
          case hc=>
           rw [rg,dZ]
           refine' cT ?ha ?ht ?he ?hs
           case ha=>intro o ho;wtm_at "Ma"
           case hs=>intro o ho;wtm_at "Msub"
           case he=>intro o ho hp;wtm_at "Me"
           case ht=>
            intro o ho;have' ho4:=hst4 o (Hs ho);have e4:=jP (b:=b ((rs.getD p []).getD a 0)) ho4;have o0:(0:Int)<=(o:Int):=E7 o;have o1:(o:Int)<2 ^ 63:=by omega
            refine' cm ?x
            case x=>wtm_at "Mt"
        case r1=>
         intro hc10
         rw [hc10]
         generalize hc2:(rs.getD (p - 1) []).any (fun o=>b ((rs.getD p []).getD a 0) o)=c2
         have hdd:Out.nxt=Out.nxt:=rfl;refine' gF (c:=(decide ((0:Int)<(p:Int)) && !c2)) (rv:=.dat (.bool false)) ?t2 ?e2 ?o2 ?r2
         case e2=>intro _;wtm_at "Me"
         case o2=>
          intro e
          simp only [Ea,decide_eq_true_eq,GE] at e
          have:(p==0)=false:=by simp;omega
          rw [this,e.2];rfl
         case r2=>
          intro e;have:(!false && (p==0 || c2))=true:=by
           cases c2 with
           | true=>simp
           | false=>
            simp only [Bool.not_false,Bool.and_true,decide_eq_false_iff_not] at e
            simp;omega
          rw [this]
          exact aH
         case t2=>
          by_cases hp0:p=0
          ·have e0:(decide ((0:Int)<(p:Int)) && !c2)=false:=by simp;omega
           rw [e0]
           refine' dF (aY.of (b:=decide ((0:Int)<(p:Int))) ?y ?z)
           case z=>simp;omega
           case y=>wtm_at "Mt"
          ·have e0:(decide ((0:Int)<(p:Int)) && !c2) = !c2:=by simp;omega
           rw [e0]
           refine' cD (aY.of (b:=decide ((0:Int)<(p:Int))) ?y ?z) (dS ?w)
           case z=>simp;omega
           case y=>wtm_at "Mt"
           case w=>
            rw [<- hc2,<- k9]
            have q1:(rs.map fun r=>GY (r.map nD))[((p:Int) - 1).toNat]? = some (.list ((rs.getD (p - 1) []).map nD)):=by
             rw [show ((p:Int) - 1).toNat=p - 1 by omega]
             have:=m3 (rs:=rs) (p:=p - 1) (by omega)
             simpa using this
            have q2:(0:Int)<=(p:Int) - 1:=by omega
            have q3:(p:Int) - 1<2 ^ 63:=by omega
            have' hp4:=pK (p:=p - 1) hr4;have hpl:=qI (p:=p - 1) hrl;have hfl:=FL (fun o=>b ((rs.getD p []).getD a 0) o) (rs.getD (p - 1) [])
            refine' bV ?cmp (fY ?sz) ?he
            case he=>intro _;rfl
            case sz=>rw [EF];omega
            case cmp=>
             wtm_at "Dc"
             case hz=>rw [EF,ER];omega
             case hc=>
              rw [dZ]
              refine' cT ?ha ?ht ?he ?hs
              case ha=>intro o ho;wtm_at "Ma"
              case hs=>intro o ho;wtm_at "Msub"
              case he=>intro o ho hp;wtm_at "Me"
              case ht=>
               intro o ho;have' ho4:=hp4 o ho;have e4:=jP (b:=b ((rs.getD p []).getD a 0)) ho4;have o0:(0:Int)<=(o:Int):=E7 o;have o1:(o:Int)<2 ^ 63:=by omega
               refine' cm ?x
               case x=>wtm_at "Mt"
     case sb=>wtm_at "Msub"
  case r=>intro e;unfold gy;rw [e];refine' a8 (aT ?e);case e=>wtm_at "Me"
noncomputable def ip (b:Nat->Nat->Bool) (row:List Nat) (e g:Nat):Bool:=!(decide (row.getD e 0<row.getD g 0) && !((row.take e).drop g).any fun x=>b (row.getD e 0) x)
noncomputable def iB (b:Nat->Nat->Bool) (row:List Nat):Bool:=(EQ row.length).all fun e=>(EQ e).all fun g=>ip b row e g
theorem zc {row:List Nat} {b:Nat->Nat->Bool} (hr4:∀ x∈row,x<4) (hl:row.length<=1000):aP C 2 fz (.ref 950) [.dat (be row),.dat (dB b)] [] σ (.dat (.bool (iB b row))) σ:=by
 unfold be dB
 have hrd:(row.map nD).length=row.length:=by rw [EF]
 have hsl:(row.map nD).length<=FI:=by rw [hrd,ER];omega
 wtm_at "Dp"
 case hr=>exact .ret
 case h=>
  dsimp only;refine' jz (okk:=(EQ row.length).all (fun e=>(EQ e).all fun g=>ip b row e g)) (rv:=.dat (.bool false)) ?s ?r ?o
  case o=>intro e;unfold iB;rw [e]
  case s=>
   refine' bf (ls:=[]) ?hi ?hf
   case hi=>
    have h1:(((row.map nD).length:Nat):Int)<2 ^ 62:=by rw [hrd];omega
    have h2:-(2 ^ 62)<=(((row.map nD).length:Nat):Int):=by omega
    have h3:(((row.map nD).length:Nat):Int)<2 ^ 63:=by omega
    wtm_at "Mi"
   case hf=>
    rw [show ((((row.map nD).length:Nat):Int)).toNat=row.length by rw [hrd];omega,dG]
    dsimp only [EZ];refine' er ?ha ?hb
    case ha=>intro e he;wtm_at "Ma"
    case hb=>
     intro e he;have' he':e<row.length:=by simpa using he
     refine' aw.sub (aE ?s2) ?sb
     case s2=>
      refine' bf (ls:=[]) ?hi ?hf
      case hi=>
       have h1:(e:Int)<2 ^ 62:=by omega
       have h2:-(2 ^ 62)<=(e:Int):=by omega
       wtm_at "Mi"
      case hf=>
       rw [show ((e:Int)).toNat=e by omega,dG]
       dsimp only [EZ];refine' er ?ha ?hb
       case ha=>intro g hg;wtm_at "Ma"
       case hb=>
        intro g hg;have hg':g<e:=by simpa using hg
        have f1:=gC he';have f2:=gC (row:=row) (p:=g) (by omega)
        have' x4:=gz (a:=e) hr4;have f3:=iq (b:=b) x4;have a0:(0:Int)<=(e:Int):=E7 e;have a1:(e:Int)<2 ^ 63:=by omega
        have b0:(0:Int)<=(g:Int):=E7 g;have b1:(g:Int)<2 ^ 63:=by omega
        have x0:(0:Int)<=((row.getD e 0:Nat):Int):=E7 _;have x1:((row.getD e 0:Nat):Int)<2 ^ 63:=by omega
        generalize hc2:((row.take e).drop g).any (fun x=>b (row.getD e 0) x)=c2
        have hok:ip b row e g = !(decide (row.getD e 0<row.getD g 0) && !c2):=by unfold ip;rw [hc2]
        rw [hok]
        generalize hc1:decide (row.getD e 0<row.getD g 0)=c1;have hd1:decide (((row.getD e 0:Nat):Int)<((row.getD g 0:Nat):Int))=c1:=by rw [<- hc1];exact decide_eq_decide.mpr (by omega)
        refine' aw.sub (gF (c:=c1 && !c2) (rv:=.dat (.bool false)) ?t1 ?e1 ?o1 ?r1) ?sb2
        case sb2=>wtm_at "Msub"
        case e1=>intro _;wtm_at "Me"
        case o1=>intro e;rw [e];rfl
        case r1=>intro e;rw [e];exact aH
        case t1=>
         cases c1 with
         | false=>
          refine' dF (aY.of (b:=decide (((row.getD e 0:Nat):Int)<((row.getD g 0:Nat):Int))) ?y hd1)
          case y=>wtm_at "Mt"
         | true=>
          rw [LC]
          refine' cD (aY.of (b:=decide (((row.getD e 0:Nat):Int)<((row.getD g 0:Nat):Int))) ?y hd1) (dS ?w)
          case y=>wtm_at "Mt"
          case w=>
           rw [<- hc2,<- k9]
           have hfl:=FL (fun x=>b (row.getD e 0) x) ((row.take e).drop g)
           have hfl2:((row.take e).drop g).length<=1000:=by rw [KG,Im];omega
           refine' bV ?cmp (fY ?sz) ?he
           case he=>intro _;rfl
           case sz=>rw [EF];omega
           case cmp=>
            wtm_at "Dc"
            case hz=>rw [EF,ER];omega
            case hc=>
             rw [uH,dZ]
             refine' cT ?ha ?ht ?he ?hs
             case ha=>intro o ho;wtm_at "Ma"
             case hs=>intro o ho;wtm_at "Msub"
             case he=>intro o ho hp;wtm_at "Me"
             case ht=>
              intro o ho;have' ho4:=hr4 o (Kf (Hs ho));have e4:=jP (b:=b (row.getD e 0)) ho4;have o0:(0:Int)<=(o:Int):=E7 o;have o1:(o:Int)<2 ^ 63:=by omega
              refine' cm ?x
              case x=>wtm_at "Mt"
     case sb=>wtm_at "Msub"
  case r=>intro e;unfold iB;rw [e];refine' a8 (aT ?e);case e=>wtm_at "Me"
end
noncomputable def dy (i j:Nat):Nat:=([0,3,5,6].getD (if j<i then j else i) 0)+(if i<j then j - i else i - j) - 1
noncomputable def gZ (free:Int) (i j:Nat):Bool:=i==j || ((free.fdiv (2 ^ dy i j)).fmod 2==0)
theorem zY {i j:Nat} (hi:i<4) (hj:j<4):([Fz 0,.int 3,.int 5,.int 6])[(if (j:Int)<(i:Int) then (j:Int) else (i:Int)).toNat]? = some (.int (([0,3,5,6].getD (if j<i then j else i) 0:Nat):Int)):=by
 rcases i with _ | _ | _ | _ | i<;>rcases j with _ | _ | _ | _ | j<;>first | rfl | omega
theorem ur {i j:Nat} (hi:i<4) (hj:j<4) (hn:i≠j):((([0,3,5,6].getD (if j<i then j else i) 0:Nat):Int)+(if (i:Int) - (j:Int)<0 then -((i:Int) - (j:Int)) else (i:Int) - (j:Int)) - 1)=(dy i j:Nat)/\dy i j<=5:=by
 rcases i with _ | _ | _ | _ | i<;>rcases j with _ | _ | _ | _ | j<;>first | exact absurd rfl hn | (decide) | omega
theorem zv {i j:Nat}:(0:Int)<=(if (j:Int)<(i:Int) then (j:Int) else (i:Int)):=by split<;>omega
theorem AI {i j:Nat} (hi:i<4) (hj:j<4):(if (j:Int)<(i:Int) then (j:Int) else (i:Int))<2 ^ 63:=by split<;>omega
section
variable {C:Cx} (H:bH C) {fz:List Nat} {σ:aC}
include H
theorem zT {free:Int} (hfz:∀ i∈fz,i<σ.length):aP C 2 fz (.ref 920) [.dat (.int free)] [] σ (.dat (dB (gZ free))) σ:=by
 have' rowE:∃ row:Nat->AO,row=fun r=>.list (((EQ 4).map fun j=>Jn (gZ free r j)).map .dat):=⟨_,rfl⟩
 obtain ⟨row,hrow⟩:=rowE
 have' refsE:∃ refs:Nat->List AV,refs=fun i=>(EQ i).map fun j=>AV.ref (σ.length+1+j):=⟨_,rfl⟩
 obtain ⟨refs,hrefs⟩:=refsE
 have' hK:σ.length∉fz:=fun h=>absurd (hfz _ h) (E5 _)
 have' hKr:∀ i,σ.length+1+i∉fz:=fun i h=>absurd (hfz _ h) (by omega)
 have hrl:∀ i,(refs i).length=i:=fun i=>by rw [hrefs];simp
 refine aP.pure (t:=.list (refs 4) :: (EQ 4).map row) (a:=.ref σ.length) ?_ ?_
 rotate_left
 ·refine .list (EK _) (bp rfl) (by simp [hrl]) fun j x d hx hd=>?_
  have hj:j<4:=by have:=(EL.mp hd).1;simpa using this
  rw [hrefs] at hx
  simp [hj] at hx hd
  subst hx hd;refine Frz.dats (by omega) ?_
  rw [E2 (by omega),show σ.length+1+j - σ.length=j+1 by omega,Ey,hrow]
  simp [hj]
 wtm_at "Dp"
 case hr=>exact .ret
 case h=>
  dsimp only;refine' aA ?s1 (aA (σ₁:=σ++.list (refs 4) :: (EQ 4).map row) ?s2 (a8 (aT ?s3)))
  case s1=>
   refine' aB ?v ?t
   case v=>exact cK bR
   case t=>wtm_at "Ma"
  case s2=>
   refine' bf (ls:=[]) ?hi ?hf
   case hi=>wtm_at "Mi"
   case hf=>
    rw [show Hv 4=4 from rfl,dG]
    dsimp only [EZ];have e0:σ++[AO.list []]=σ++.list (refs ([]:List Nat).length) :: (EQ ([]:List Nat).length).map row:=by rw [hrefs];rfl
    rw [e0]
    refine' cW (S:=fun pre=>σ++.list (refs pre.length) :: (EQ pre.length).map row) ?ha ?hb
    case ha=>intro pre x post hx;wtm_at "Ma"
    case hb=>
     intro pre x post hx;obtain ⟨hxp,hx4⟩:=eK hx
     rw [EX,Ei,<- hxp]
     have' SE:∃ S:List Nat->aC,∀ q,S q=σ++.list (refs (x+1)) :: ((EQ x).map row++[.list ((q.map fun j=>Jn (gZ free x j)).map .dat)]):=⟨_,fun zz=>rfl⟩
     obtain ⟨S,hS⟩:=SE;refine' aw.sub (aA (σ₁:=S []) ?b1 (aE (aq.st (σ₁:=S (EQ 4)) ?b2 ?b3))) ?sb
     case b1=>
      refine' aq.st (bO (ba ?ho (cK bR) ?hl ?hg ?hz ?hsz)) ?he
      case ho=>wtm_at "Me"
      case hl=>exact ⟨_,bp rfl⟩
      case hg=>rw [FK];exact bp rfl
      case hz=>exact hK
      case hsz=>rw [hrl,ER];omega
      case he=>
       rw [hS,FK,Eo,gP rfl]
       congr 2
       rw [hrefs]
       simp [HI]
       omega
     case b2=>
      refine' bf (ls:=[]) ?hi ?hf
      case hi=>wtm_at "Mi"
      case hf=>
       rw [show Hv 4=4 from rfl,dG]
       dsimp only [EZ];refine' cW (S:=S) ?ha ?hb
       case ha=>intro pre y post hy;wtm_at "Ma"
       case hb=>
        intro pre2 y post2 hy;obtain ⟨hyp,hy4⟩:=eK hy
        rw [hS,hS]
        have e1:=zY hx4 hy4;have h0:=zv (i:=x) (j:=y);have h1:=AI hx4 hy4;refine' aw.sub (aA ?f1 (aE (aq.st (bO (ba (i:=σ.length+1+x) (xs:=((pre2.map fun j=>Jn (gZ free x j)).map .dat)) (a:=.dat (.bool (gZ free x y))) ?ho ?hv ?hl ?hg ?hz ?hsz)) ?he))) ?sbi
        case f1=>
         refine' aB ?v ?t
         case v=>wtm_at "Me"
         case t=>wtm_at "Ma"
        case ho=>
         refine' mY (l:=σ.length) (i:=(x:Int)) ?u1 ?u2 ?u3 ?u4 ?u5 ?u6
         case u1=>wtm_at "Me"
         case u2=>wtm_at "Me"
         case u3=>exact bp rfl
         case u4=>omega
         case u5=>omega
         case u6=>rw [hrefs];simp
        case hv=>
         refine' aG.of (oB (p:=((x:Int)==(y:Int))) (q:=((free.fdiv (2 ^ dy x y)).fmod 2==0)) ?o1 ?o2) ?o3
         case o1=>wtm_at "Me"
         case o3=>rw [Ad];rfl
         case o2=>
          intro hne;have hne':x≠y:=by intro q;rw [q] at hne;simp at hne
          obtain ⟨hf1,hf2⟩:=ur hx4 hy4 hne'
          rw [hf1]
          have hp0:(0:Int)<=(dy x y:Nat):=E7 _;have hp1:(Ep.Int.intBits 2:Int) * ((dy x y:Nat):Int)<=2 ^ 27:=by
           rw [show Ep.Int.intBits 2=2 by decide +kernel];omega
          have hp2:(2:Int) ^ (((dy x y:Nat):Int)).toNat≠0:=by
           rw [HP];exact Int.pow_ne_zero (by decide)
          have hp3:Ep.divisionGoesByPylong free ((2:Int) ^ (((dy x y:Nat):Int)).toNat)=false:=by
           refine PyProof.noPylong_small ?_
           rw [HP]
           generalize dy x y=f at hf2
           rcases f with _ | _ | _ | _ | _ | _ | f<;>first | decide | omega
          wtm_at "Me"
        case hl=>exact ⟨_,pd (r:=(EQ x).map row) (by simp)⟩
        case hg=>exact pd (r:=(EQ x).map row) (by simp)
        case hz=>exact hKr x
        case hsz=>simp [ER];omega
        case he=>
         rw [yK (by simp)]
         simp
        case sbi=>wtm_at "Msub"
     case b3=>
      rw [hS,HI (n:=x),Ek,hrow]
      simp
     case sb=>wtm_at "Msub"
  case s3=>wtm_at "Me"
end
noncomputable def gm (script:List Int) (cs:List Int) (p:Nat):List Int:=cs.set (p % 6) (cs.getD (p % 6) 0+script.getD p 0)
noncomputable def de (script:List Int) (ps:List Nat):List Int:=ps.foldl (gm script) [3,0,2,1,0,22]
noncomputable def dI (script:List Int):List Int:=de script (EQ script.length)
theorem gt (script:List Int) (ps:List Nat):(de script ps).length=6:=by
 unfold de
 suffices h:∀ cs:List Int,cs.length=6->(ps.foldl (gm script) cs).length=6 from h _ rfl
 induction ps with
 | nil=>exact fun zz h=>h
 | cons p ps ih=>intro cs h;exact ih _ (by rw [gm,Hh];exact h)
theorem oM (script:List Int) (ps:List Nat) (p:Nat):de script (ps++[p])=gm script (de script ps) p:=by
 unfold de;rw [G9];rfl
theorem wa {p:Nat}:(p:Int).fmod 6=((p % 6:Nat):Int):=by
 rw [Int.fmod_eq_emod_of_nonneg _ (by decide)];omega
section
variable {C:Cx} (H:bH C) {fz:List Nat} {σ:aC}
include H
theorem yi {script:List Int} (hz:script.length<=1000) (hfz:∀ i∈fz,i<σ.length):aP C 2 fz (.ref 908) [.dat (.list (script.map .int))] [] σ (.dat (.list ((dI script).map .int))) σ:=by
 have' hK:σ.length∉fz:=fun h=>absurd (hfz _ h) (E5 _)
 have hlen:(script.map Fz).length=script.length:=by rw [EF]
 refine aP.pure (t:=[.list (((dI script).map .int).map .dat)]) (a:=.ref σ.length) ?_ (Frz.dats (EK _) (bp rfl))
 wtm_at "Dp"
 case hr=>exact .ret
 case h=>
  dsimp only;obtain ⟨S,hS⟩:∃ S:List Nat->aC,∀ q,S q=σ++[.list (((de script q).map .int).map .dat)]:=⟨_,fun zz=>rfl⟩
  refine' aA (σ₁:=S []) ?s1 (aA (σ₁:=S (EQ script.length)) ?s2 (aw.st (σ₁:=S (EQ script.length)) (a8 (aT ?s3)) ?s4))
  case s4=>rw [hS];rfl
  case s1=>
   refine' aq.st (aB ?v ?t) ?he
   case v=>
    refine' cK ?w ?w2
    case w=>wtm_at "Ml"
    case w2=>decide
   case t=>wtm_at "Ma"
   case he=>rw [hS];rfl
  case s2=>
   refine' bf (ls:=[]) ?hi ?hf
   case hi=>
    have h1:(((script.map Fz).length:Nat):Int)<2 ^ 62:=by rw [hlen];omega
    have h2:-(2 ^ 62)<=(((script.map Fz).length:Nat):Int):=by omega
    have h3:(((script.map Fz).length:Nat):Int)<2 ^ 63:=by omega
    wtm_at "Mi"
   case hf=>
    rw [show ((((script.map Fz).length:Nat):Int)).toNat=script.length by rw [hlen];omega,dG]
    dsimp only [EZ];refine' cW (S:=S) ?ha ?hb
    case ha=>intro pre x post hx;wtm_at "Ma"
    case hb=>
     intro pre x post hx;obtain ⟨hxp,hxl⟩:=eK hx
     rw [hS,hS]
     have hcl:=gt script pre;have hm0:(0:Int)<=(x:Int).fmod 6:=by rw [wa];omega
     have hm1:(x:Int).fmod 6<2 ^ 63:=by rw [wa];omega
     have hm2:((x:Int).fmod 6).toNat<(((de script pre).map Fz).map AV.dat).length:=by rw [wa,EF,EF,hcl];omega
     have hx0:(0:Int)<=(x:Int):=E7 x;have hx1:(x:Int)<2 ^ 63:=by omega
     have e1:(script.map Fz)[((x:Int)).toNat]? = some (.int (script.getD x 0)):=by simp [hxl,GN]
     have' e2:(((de script pre).map Fz).map AV.dat)[((x:Int).fmod 6).toNat]? = some (.dat (.int ((de script pre).getD (x % 6) 0))):=by
      have hlt:x % 6<(de script pre).length:=by rw [hcl];omega
      rw [wa,HP]
      simp [hlt,GN]
     refine' aw.sub (aE (aq.st (aB ?v ?t) ?he)) ?sb
     case v=>
      refine' cx ?v1 ?v2 ?v3
      case v1=>
       refine' mY (l:=σ.length) (i:=(x:Int).fmod 6) ?u1 ?u2 ?u3 hm0 hm1 e2
       case u1=>wtm_at "Me"
       case u2=>wtm_at "Me"
       case u3=>exact bp rfl
      case v2=>wtm_at "Me"
      case v3=>wtm_at "Mbo"
     case t=>
      refine' th (l:=σ.length) (i:=(x:Int).fmod 6) ?u1 ?u2 ?u3 hK hm0 hm1 hm2
      case u1=>wtm_at "Me"
      case u2=>wtm_at "Me"
      case u3=>exact bp rfl
     case he=>
      rw [gP rfl,oM,wa,HP,gm]
      simp [L5]
     case sb=>wtm_at "Msub"
  case s3=>wtm_at "Me"
end
noncomputable def cy (ds:List PyData):List PyData:=ds.foldl (fun acc d=>if acc.any fun y=>FF y d then acc else acc++[d]) []
theorem dg (ds:List PyData) (d:PyData):cy (ds++[d])=if (cy ds).any fun y=>FF y d then cy ds else cy ds++[d]:=by
 unfold cy;rw [G9];rfl
theorem fO {α:Type} {P:List α->Prop} (h0:P []) (h1:∀ l x,P l->P (l++[x])) (l:List α):P l:=by
 suffices h:∀ r:List α,P r.reverse by have:=h l.reverse;rwa [List.reverse_reverse] at this
 intro r
 induction r with
 | nil=>exact h0
 | cons x r ih=>rw [List.reverse_cons];exact h1 _ _ ih
theorem mK (ds:List PyData):∀ d∈cy ds,d∈ds:=by
 refine fO (P:=fun ds=>∀ d∈cy ds,d∈ds) (fun zz h=>h) (fun ds d ih x hx=>?_) ds
 rw [dg] at hx
 split at hx
 ·exact EG.mpr (.inl (ih x hx))
 ·rcases EG.mp hx with q | q
  ·exact EG.mpr (.inl (ih x q))
  ·exact EG.mpr (.inr q)
theorem m7 (ds:List PyData):(cy ds).length<=ds.length:=by
 refine fO (P:=fun ds=>(cy ds).length<=ds.length) (EK _) (fun ds d ih=>?_) ds
 rw [dg,EX]
 split<;>simp<;>omega
theorem iR:∀ {xs:List PyData},(∀ d∈xs,SeqAt.shaped d=true)->Fv xs=true:=by
 intro xs
 induction xs with
 | nil=>exact fun zz=>rfl
 | cons x xs ih=>
  intro h
  rw [Fv,SeqAt.canLay_of_shaped (h x (.head _)),ih fun d hd=>h d (.tail _ hd)];rfl
section
variable {C:Cx} {lv:Lv} {N:aF} {ρ ρ₁ ρ₂:aO} {σ σ₁ σ₂:aC} {o:Out}
theorem pB {t:Expr} {x y:List Stmt} {pos:Pos} {c:Bool} (h:aY C lv N t ρ σ c ρ₁ σ₁) (hx:c=true->aw C lv N x ρ₁ σ₁ o ρ₂ σ₂) (hy:c=false->aw C lv N y ρ₁ σ₁ o ρ₂ σ₂):aq C lv N (.If t x y pos) ρ σ o ρ₂ σ₂:=by
 cases c with
 | true=>exact bL h (hx rfl)
 | false=>exact aN h (hy rfl)
end
section
variable {C:Cx} (H:bH C) {fz:List Nat} {σ:aC}
include H
theorem oQ {ds:List PyData} (hs:∀ d∈ds,SeqAt.shaped d=true) (hz:ds.length<=1000) (hfz:∀ i∈fz,i<σ.length):aP C 2 fz (.ref 894) [.dat (.list ds)] [] σ (.dat (.list (cy ds))) σ:=by
 have' hK:σ.length∉fz:=fun h=>absurd (hfz _ h) (E5 _)
 refine aP.pure (t:=[.list ((cy ds).map .dat)]) (a:=.ref σ.length) ?_ (Frz.dats (EK _) (bp rfl))
 wtm_at "Dp"
 case hr=>exact .ret
 case h=>
  dsimp only;obtain ⟨S,hS⟩:∃ S:List PyData->aC,∀ q,S q=σ++[.list ((cy q).map .dat)]:=⟨_,fun zz=>rfl⟩
  refine' aA (σ₁:=S []) ?s1 (aA (σ₁:=S ds) ?s2 (aw.st (σ₁:=S ds) (a8 (aT ?s3)) ?s4))
  case s4=>rw [hS]
  case s1=>
   refine' aq.st (aB ?v ?t) ?he
   case v=>
    refine' cK ?w ?w2
    case w=>wtm_at "Ml"
    case w2=>decide
   case t=>wtm_at "Ma"
   case he=>rw [hS];rfl
  case s2=>
   refine' bf (ls:=[]) ?hi ?hf
   case hi=>wtm_at "Mi"
   case hf=>
    dsimp only [EZ];refine' cW (S:=S) ?ha ?hb
    case ha=>intro pre x post hx;wtm_at "Ma"
    case hb=>
     intro pre x post hx;have hxs:SeqAt.shaped x=true:=hs x (by rw [hx];simp)
     have hpre:∀ d∈cy pre,SeqAt.shaped d=true:=fun d hd=>hs d (by rw [hx];exact EG.mpr (.inl (mK pre d hd)))
     have hlen:(cy pre).length<=1000:=by
      have h1:=m7 pre;have h2:=congrArg H7 hx
      simp at h2;omega
     rw [hS,hS]
     refine' aw.sub (aE (pB (c:=!((cy pre).any fun y=>FF y x)) ?t ?x ?y)) ?sb
     case t=>
      refine' ai ?l ?r ?o
      case l=>wtm_at "Me"
      case r=>wtm_at "Me"
      case o=>exact OpG.see (fD hxs (iR hpre)) .dat (Frz.dats (En _) (bp rfl))
     case x=>
      intro hc;refine' aE (aq.st (bO (ba (i:=σ.length) (xs:=(cy pre).map .dat) (a:=.dat x) ?ho ?hv ⟨_,bp rfl⟩ (bp rfl) hK ?hsz)) ?he)
      case ho=>wtm_at "Me"
      case hv=>wtm_at "Me"
      case hsz=>rw [EF,ER];omega
      case he=>
       rw [gP rfl,dg,if_neg (by simpa using hc)]
       simp
     case y=>
      intro hc;refine' aw.st aH ?he
      case he=>rw [dg,if_pos (by simpa using hc)]
     case sb=>wtm_at "Msub"
  case s3=>wtm_at "Me"
end
noncomputable def bM (ws:List Str):List Str:=ws.foldl (fun acc w=>if acc.any (fun y=>y==w) then acc else acc++[w]) []
theorem en (ws:List Str) (w:Str):bM (ws++[w])=if (bM ws).any (fun y=>y==w) then bM ws else bM ws++[w]:=by
 unfold bM;rw [G9];rfl
theorem kO {a b:Str}:FF (.str a) (.str b)=(a==b):=by simp [FF]
theorem jR (ws:List Str):cy (ws.map .str)=(bM ws).map .str:=by
 refine fO (P:=fun ws=>cy (ws.map .str)=(bM ws).map .str) rfl (fun ws w ih=>?_) ws
 rw [Ek,J7,dg,en,ih,L8]
 have e:((fun y=>FF y (F4 w)) ∘ F4)=fun y=>y==w:=by funext y;exact kO
 rw [e]
 split<;>simp
noncomputable def cZ:List Str->List Str->Option (List Str)
 | t,[]=>some t
 | t,w :: ws=>if w∈t then cZ (t.erase w) ws else none
noncomputable def iF:List Str->List Str->List Str
 | t,[]=>t
 | t,w :: ws=>if w∈t then iF (t.erase w) ws else t
noncomputable def b9 (f g:List Str):Bool:=match cZ (bM g) (bM f) with
 | none=>false
 | some t=>t.isEmpty
theorem q5 {t:List Str} {w:Str} (h:w∈t):∃ j:Nat,t[j]? = some w/\(∀ m,m<j->t[m]?≠some w)/\t.eraseIdx j=t.erase w:=by
 induction t with
 | nil=>cases h
 | cons x t ih=>
  by_cases hx:x=w
  ·subst hx
   exact ⟨0,rfl,fun m hm=>absurd hm (Hj m),by simp⟩
  ·have' h':w∈t:=(EV.mp h).resolve_left fun q=>hx q.symm
   obtain ⟨j,h1,h2,h3⟩:=ih h';refine ⟨j+1,h1,fun m hm=>?_,?_⟩
   ·cases m with
    | zero=>simp only [List.getElem?_cons_zero];intro q;exact hx (GF.inj q)
    | succ m=>exact h2 m (by omega)
   ·rw [IU,h3,List.erase_cons_tail (by simpa using hx)]
section
variable {C:Cx} {lv:Lv} {N:aF} {ρ ρ₁ ρ₂:aO} {σ σ₁ σ₂:aC} {o:Out} {tg:Expr} {body:List Stmt} {r:Str->aO}
noncomputable def St (σ:aC) (t:List Str):aC:=σ++[.list ((t.map F4).map .dat)]
theorem kX {t:List Str}:(St σ t)[σ.length]? = some (.list ((t.map F4).map .dat)):=bp rfl
set_option tactic.hygienic true in
theorem A3 (ha:∀ t w,ci C lv N tg (.dat (.str w)) ρ (St σ t) (r w) (St σ t)) (hb:∀ t w,t.length<=1000->w∈t->aw C lv N body (r w) (St σ t) .nxt ρ (St σ (t.erase w))) :
  ∀ (ws t t':List Str),t.length<=1000->cZ t ws=some t'->fc C lv N tg body [] ((ws.map F4).map .dat) ρ (St σ t) .nxt ρ (St σ t'):=by
 intro ws
 induction ws with
 | nil=>
  intro t t' _ h
  cases h;exact .done aH
 | cons w ws ih=>
  intro t t' hz h
  rw [cZ] at h
  split at h
  ·rename_i hw
   exact .turn (ha t w) (hb t w hz hw) (.inl rfl) Sub.refl (ih _ t' (EH (JB ..) hz) h)
  ·cases h
set_option tactic.hygienic true in
theorem yf (ha:∀ t w,ci C lv N tg (.dat (.str w)) ρ (St σ t) (r w) (St σ t)) (hb:∀ t w,t.length<=1000->w∈t->aw C lv N body (r w) (St σ t) .nxt ρ (St σ (t.erase w))) (hx:∀ t w,w∉t->fh C lv N body (r w) (St σ t) "ValueError" ρ (St σ t)) :
  ∀ (ws t:List Str),t.length<=1000->cZ t ws=none->iM C lv N tg body ((ws.map F4).map .dat) ρ (St σ t) "ValueError" ρ (St σ (iF t ws)):=by
 intro ws
 induction ws with
 | nil=>
  intro t _ h
  cases h
 | cons w ws ih=>
  intro t hz h
  rw [cZ] at h
  split at h
  ·rename_i hw
   rw [iF,if_pos hw]
   exact .turn (ha t w) (hb t w hz hw) (.inl rfl) Sub.refl (ih _ (EH (JB ..) hz) h)
  ·rename_i hw
   rw [iF,if_neg hw]
   exact .exc (ha t w) (hx t w hw)
theorem wq {x:Expr} {pos:Pos} {a:AV} {d:PyData} {c:Bool} (h:aG C lv N x ρ σ a ρ₁ σ₁) (f:Frz σ₁ 0 a d) (ht:Tru C d c):aG C lv N (.UnaryOp .Not x pos) ρ σ (.dat (.bool (!c))) ρ₁ σ₁:=fun A env μ s Q E ok G F hQ=>
 UnaryOp_ (h A env μ s _ _ ok G F fun v μ1 s1 P1 r=>by
  obtain ⟨as,r⟩:=f.see P1.good.sim r;unfold unaryOp;refine E1 ?_
  show wpAny _ _ (do let c <- truthy v;pure (Value.bool !c)) _ _ _
  refine ED (ht A [] _ s1 _ _ _ (gp r) fun s2 k=>EI ?_)
  exact hQ _ μ1 s2 (P1.trans (aS.grow P1.good P1.fr k)) ⟨[],.bool _⟩)
end
theorem jn {ws:List Str} (h:∀ w∈ws,Fo w=true):∀ d∈ws.map F4,SeqAt.shaped d=true:=by
 intro d hd
 obtain ⟨w,hw,rfl⟩:=EO.mp hd
 simp [SeqAt.shaped,J8,h w hw,PyData.depth]
theorem r6 (ws:List Str):(bM ws).length<=ws.length:=by
 have h1:=m7 (ws.map .str)
 rw [jR] at h1
 simpa using h1
section
variable {C:Cx} (H:bH C) {fz:List Nat} {σ:aC}
include H
theorem q6 {f g:List Str} (hf:∀ w∈f,Fo w=true) (hg:∀ w∈g,Fo w=true) (hzf:f.length<=1000) (hzg:g.length<=1000) (hfz:∀ i∈fz,i<σ.length) :
  aP C 3 fz (.ref 901) [.dat (.list (f.map .str)),.dat (.list (g.map .str))] [] σ (.dat (.bool (b9 f g))) σ:=by
 have hK:σ.length∉fz:=fun h=>absurd (hfz _ h) (E5 _)
 have c1:=oQ H (fz:=fz) (σ:=σ) (ds:=f.map .str) (jn hf) (by simpa using hzf) hfz
 have c2:=oQ H (fz:=fz) (σ:=σ) (ds:=g.map .str) (jn hg) (by simpa using hzg) hfz
 rw [jR] at c1 c2
 have hl:=r6 g
 cases hto:cZ (bM g) (bM f) with
 | none=>
  have hr:b9 f g=false:=by unfold b9;rw [hto]
  rw [hr]
  refine aP.drop (t:=[.list (((iF (bM g) (bM f)).map F4).map .dat)]) ?_;wtm_at "Dp"
  case hr=>exact .ret
  case h=>
   dsimp only;refine' aA ?s1 (aA ?s2 (aA (σ₁:=St σ (bM g)) ?s3 (aw.st (σ₁:=St σ (iF (bM g) (bM f))) (a8 ?s4) rfl)))
   case s1=>
    refine' aB ?v ?t
    case v=>
     refine' e6 ?f (bH.look H rfl) rfl ?l c1 (EK _) (by with_unfolding_all rfl) (by with_unfolding_all rfl)
     case f=>wtm_at "Me"
     case l=>wtm_at "Ml"
    case t=>wtm_at "Ma"
   case s2=>
    refine' aB ?v ?t
    case v=>
     refine' e6 ?f (bH.look H rfl) rfl ?l c2 (EK _) (by with_unfolding_all rfl) (by with_unfolding_all rfl)
     case f=>wtm_at "Me"
     case l=>wtm_at "Ml"
    case t=>wtm_at "Ma"
   case s3=>
    refine' aq.st (aB ?v ?t) ?he
    case v=>
     refine' ct ?f ?l (tM ?z) (by with_unfolding_all rfl)
     case f=>wtm_at "Me"
     case l=>wtm_at "Ml"
     case z=>simp [ER];omega
    case t=>wtm_at "Ma"
    case he=>rfl
   case s4=>
    refine' ju (X := "ValueError") (T := "ValueError") (eh (wu (ls:=[]) ?hi (yf (σ:=σ) ?ha ?hb ?hx _ _ (by omega) hto))) ?ht PySem.F.isExc_ValueError PySem.F.notTuple_ValueError PySem.F.self_ValueError ?hs
    case hi=>wtm_at "Mi"
    case ha=>intro t w;wtm_at "Ma"
    case hb=>
     intro t w hz hw;obtain ⟨j,j1,j2,j3⟩:=q5 hw;refine' aw.sub (aE (aq.st (bO (ed ?ho ?hl (dJ kX) PySem.F.plainAttrs_list PySem.F.slot_list_remove PySem.F.type_list_remove (ma kX hK ?hsz j1 j2))) ?he)) ?sb
     case ho=>wtm_at "Me"
     case hl=>wtm_at "Ml"
     case hsz=>rw [ER];omega
     case he=>unfold St;rw [gP rfl,j3]
     case sb=>wtm_at "Msub"
    case hx=>
     intro t w hw;refine' fh.sub (eh (rE (vS ?ho ?hl (dJ kX) PySem.F.plainAttrs_list PySem.F.slot_list_remove PySem.F.type_list_remove (tR kX hw rfl)))) ?sb
     case ho=>wtm_at "Me"
     case hl=>wtm_at "Ml"
     case sb=>wtm_at "Msub"
    case ht=>wtm_at "Me"
    case hs=>exact a8 (aT fV)
 | some t'=>
  have hr:b9 f g=t'.isEmpty:=by unfold b9;rw [hto]
  rw [hr]
  refine aP.drop (t:=[.list ((t'.map F4).map .dat)]) ?_;wtm_at "Dp"
  case hr=>exact .ret
  case h=>
   dsimp only;refine' aA ?s1 (aA ?s2 (aA (σ₁:=St σ (bM g)) ?s3 (aA (σ₁:=St σ t') ?s4 (aw.st (σ₁:=St σ t') (a8 (aT (aG.of ?s5 ?s6))) rfl))))
   case s1=>
    refine' aB ?v ?t
    case v=>
     refine' e6 ?f (bH.look H rfl) rfl ?l c1 (EK _) (by with_unfolding_all rfl) (by with_unfolding_all rfl)
     case f=>wtm_at "Me"
     case l=>wtm_at "Ml"
    case t=>wtm_at "Ma"
   case s2=>
    refine' aB ?v ?t
    case v=>
     refine' e6 ?f (bH.look H rfl) rfl ?l c2 (EK _) (by with_unfolding_all rfl) (by with_unfolding_all rfl)
     case f=>wtm_at "Me"
     case l=>wtm_at "Ml"
    case t=>wtm_at "Ma"
   case s3=>
    refine' aq.st (aB ?v ?t) ?he
    case v=>
     refine' ct ?f ?l (tM ?z) (by with_unfolding_all rfl)
     case f=>wtm_at "Me"
     case l=>wtm_at "Ml"
     case z=>simp [ER];omega
    case t=>wtm_at "Ma"
    case he=>rfl
   case s4=>
    refine' rq (aE (bf (ls:=[]) ?hi (A3 (σ:=σ) ?ha ?hb _ _ _ (by omega) hto))) aH
    case hi=>wtm_at "Mi"
    case ha=>intro t w;wtm_at "Ma"
    case hb=>
     intro t w hz hw;obtain ⟨j,j1,j2,j3⟩:=q5 hw;refine' aw.sub (aE (aq.st (bO (ed ?ho ?hl (dJ kX) PySem.F.plainAttrs_list PySem.F.slot_list_remove PySem.F.type_list_remove (ma kX hK ?hsz j1 j2))) ?he)) ?sb
     case ho=>wtm_at "Me"
     case hl=>wtm_at "Ml"
     case hsz=>rw [ER];omega
     case he=>unfold St;rw [gP rfl,j3]
     case sb=>wtm_at "Msub"
   case s5=>
    refine' wq (c:=!(t'.map F4).isEmpty) ?x (Frz.dats (ds:=t'.map .str) (En _) kX) (fY ?z)
    case x=>wtm_at "Me"
    case z=>
     have:∀ (ws t t':List Str),cZ t ws=some t'->t'.length<=t.length:=by
      intro ws
      induction ws with
      | nil=>intro t t' h;cases h;exact EK _
      | cons w ws ih=>
       intro t t' h
       rw [cZ] at h
       split at h
       ·exact EH (ih _ _ h) (JB ..)
       ·cases h
     have:=this _ _ _ hto
     rw [EF];omega
   case s6=>cases t'<;>rfl
end
section
open PySem.Calls PySem.Builtin
noncomputable abbrev jh:Obj:={cls:=.type "builtin_function_or_method",data:=.fields #[.builtin "dict.fromkeys",.type "dict"]}
theorem zU {K:Frag}:findCls K (.type "dict") (.type "type") "fromkeys" = some (.get (.builtin "classmethod_descriptor.__get__") (.builtin "dict.fromkeys") .none (.type "dict")):=by kernel_rfl
theorem yo:typeOf (.builtin "dict.fromkeys")=pure (.type "classmethod_descriptor"):=by show builtinType _=_;rw [Kt];kernel_rfl
theorem xA:JA table "dict.fromkeys" = some Ep.«dict.fromkeys» := HC (by kernel_rfl)
theorem m6:JA table "dict.fromkeys.loop" = some Ep.«dict.fromkeys.loop» := HC (by kernel_rfl)
theorem iC:plainId "dict.fromkeys.loop" = true:=by decide +kernel
theorem yL {v:Value}:I9 "dict.fromkeys" ⟨[.type "dict",v],[]⟩=pure ():=by kernel_rfl
theorem Bb {S:JQ}:(peek1 [] S (Ep.«classmethod_descriptor.__get__» ⟨[.builtin "dict.fromkeys",.none,.type "dict"],[]⟩)).map (·.1)=some jh:=by kernel_rfl
theorem A4 {S:JQ} {D:Addr}:((peek1 [] S (Ep.«classmethod_descriptor.__get__» ⟨[.builtin "dict.fromkeys",.none,.type "dict"],[]⟩)).bind fun p=>p.2 D)=some (.done (.ret (.ref D))):=by kernel_rfl
theorem BS {S:JQ}:(peek1 [] S (Ep.«dict.__new__» ⟨[.type "dict"],[]⟩)).map (·.1)=some emptyDict:=by kernel_rfl
theorem AP {S:JQ} {D:Addr}:((peek1 [] S (Ep.«dict.__new__» ⟨[.type "dict"],[]⟩)).bind fun p=>p.2 D)=some (.done (.ret (.ref D))):=by kernel_rfl
theorem wx:IB "dict.__new__" ⟨[.type "dict"],[]⟩=pure ():=by kernel_rfl
theorem ot:checkTypeCall "dict" ⟨[],[]⟩=pure ():=by kernel_rfl
theorem zM (a:Value):argsOk "dict.__init__" ⟨[a],[]⟩:=by unfold argsOk;kernel_rfl
theorem sP {α:Type} {M:Model} {A:Around} {E:Value->Shared->Prop} {Q:α->Shared->Prop} {s:Shared} {o:Obj} {r:Addr->α} {t:Sem α} (h1:∀ S,(peek1 [] S t).map (·.1)=some o) (h2:∀ S D,((peek1 [] S t).bind fun p=>p.2 D)=some (r D)) (q:Q (r s.heap.objs.size) {s with heap:=s.heap.push o}):wpAny M A t Q E s:=by
 obtain ⟨⟨o',g⟩,e1,e2⟩:=FP.mp (h1 ⟨M.prog,M.w.params⟩)
 dsimp only at e2
 subst e2
 refine jE (K:=[]) (M:=M) (r:=r) (fun zz zz e=>nomatch e) q (fun zz zz e=>nomatch e) _ g e1 fun D=>?_
 have h3:=h2 ⟨M.prog,M.w.params⟩ D
 rw [e1] at h3
 exact h3
section
variable {prog:Fq} {w:World} {A:Around} {E:Value->Shared->Prop} {s:Shared} {K:Frag}
theorem yr {pl:Sem Bool} {Q:Value×List Value->Shared->Prop} (X:K.In s.heap) (h:Q (.ref s.heap.objs.size,[]) {s with heap:=s.heap.push jh,toks:=s.toks+1}):wpAny (model prog w) A (IW (.type "dict") "fromkeys" pl) Q E s:=by
 have hstub:H5 (.type "dict")=pure none:=by unfold H5;dsimp only;rw [show Manifest.isStub "dict" = false by decide +kernel];rfl
 have' ht:typeOf (.type "dict")=pure (.type "type"):=by first | rfl | kernel_rfl
 have L0:Looks (model prog w) s.heap (typeOf (.type "dict")) (.type "type"):=Fd ht
 have hg:findIn K (.type "type") "__getattribute__" = some (some (.builtin "type.__getattribute__")):=type_tga
 unfold IW Gk
 with_reducible refine ED (ED (L0.here ((IA X hg).here ?_)))
 dsimp only
 rw [if_pos canon_tga]
 with_reducible refine ED (Es (Q:=fun v=>Q (v,[])) (E:=E) ?_ (fun zz zz z=>EI z) fun zz zz z=>z)
 have' LO:Looks (model prog w) s.heap (H5 (.type "dict")) none:=Fd hstub
 refine cls_open X LO L0 hg (looks_hook X (r:=none) (by rfl)) (by kernel_rfl) zU ?_
 show wpAny _ _ (Hx [.builtin "dict.fromkeys"] (call (.builtin "classmethod_descriptor.__get__") [.builtin "dict.fromkeys",.none,.type "dict"]) >>= fun v=>ret v) _ _ _
 exact ED (E1 (KC KFB.slot_get yo KFB.entry_get (sP (fun zz=>Bb) (fun zz zz=>A4) ⟨_,rfl,EI (EI h)⟩) (KFB.args_get _ _ _)))
theorem sL {Q:Value->Shared->Prop} (h:Q (.ref s.heap.objs.size) {s with heap:=s.heap.push emptyDict}):wpAny (model prog w) A (call (.type "dict") []) Q E s:=by
 refine callType_codes (Q₁:=fun obj s₁=>obj=.ref s.heap.objs.size/\s₁={s with heap:=s.heap.push emptyDict}) F.kt_called_dict ot F.entry_dict_init
  (GX F.kt_plain_dict_new F.kt_entry_dict_new (GG wx (sP (fun zz=>BS) (fun zz zz=>AP) ⟨rfl,rfl⟩))) ?_
 rintro obj s₁ ⟨rfl,rfl⟩
 have hT:Shared.TypeIs {s with heap:=s.heap.push emptyDict} (.ref s.heap.objs.size) "dict" := ⟨_,ES _ rfl,rfl⟩
 refine ⟨hT,zM _,?_⟩
 unfold Ep.«dict.__init__»
 refine ED ?_
 unfold Ep.Dict.selfAndRest
 refine ED (wpAny_notOrdered_dict hT ?_)
 show wpAny _ _ (pure (s.heap.objs.size,[])) _ _ _
 refine EI ?_
 show wpAny _ _ (Ep.Dict.addKeywords s.heap.objs.size [] >>= fun zz=>ret .none) _ _ _
 unfold Ep.Dict.addKeywords
 rw [I5]
 exact ED (ED (EI (EI (EI ⟨rfl,h⟩))))
theorem zC {x:Addr} {v:Value} {Q:Value->Shared->Prop} (ho:s.heap.get? x=some jh)
  (h:wpAny (model prog w) (A.under (.builtin "dict.fromkeys" ⟨[.type "dict",v],[]⟩)) (Ep.«dict.fromkeys» ⟨[.type "dict",v],[]⟩) (fun fin s'=>match fin with | .done (.ret r)=>Q r s' | .done _=>False | .again c'=>c'.quiet=true/\GR (model prog w) A c' (fun r s'=>match r with | .ok (.ret v)=>Q v s' | .ok _=>False | .error e=>E e s') s') E s):wpAny (model prog w) A (call (.ref x) [v]) Q E s:=by
 refine Fi (Gx ?_)
 show wpAny _ A.in1 (Kn (.ref x) ⟨[v],[]⟩) _ _ s
 refine ED (KP ho ?_)
 refine KFB.if_so (c:=(Fa "builtin_function_or_method" == Fa "method" || Fa "builtin_function_or_method" == Fa "builtin_function_or_method" || Fa "builtin_function_or_method" == Fa "method-wrapper")=true) (by decide) ?_
 refine KFB.if_so (by decide) ?_
 refine ED (GG (a:=()) yL ?_)
 refine ED (EI (EI ?_))
 refine ⟨Code.quiet_builtin _ (by decide +kernel),Fg xA (Es h (fun fin s' z=>?_) fun zz zz z=>z)⟩
 rcases fin with (_ | _ | _ | _) | _<;>first | exact z | exact z.elim
theorem pM {xs:List Str} {k:Str}:stored (xs.map fun k=>(k,FE)) k FE=(if xs.any (fun y=>y==k) then xs else xs++[k]).map fun k=>(k,FE):=by
 unfold stored
 have' e:(xs.map fun k=>(k,FE)).any (fun p=>p.1=k)=xs.any fun y=>y==k:=by
  rw [L8];congr 1
 rw [e]
 split
 ·rw [ET]
  exact FR fun y zz=>by dsimp only [Function.comp];split<;>rfl
 ·rw [Ek];rfl
theorem uT (ws:List Str):(bM ws).length<=ws.length:=by
 refine fO (P:=fun ws=>(bM ws).length<=ws.length) (EK _) (fun ws w ih=>?_) ws
 rw [en]
 split
 ·rw [EX];exact EH ih (EP _ _)
 ·simp only [EX,Ei];omega
theorem z7 {R:Result->Shared->Prop} {D I l:Addr} {items:Array Value} {ws:List Str} {h0:Heap} (hh:A.handled=none) (hDI:D≠I) (hl:h0.IsList l items) (hlD:l≠D) (hlI:l≠I) (hsz:items.size=ws.length) (hws:∀ (j:Nat) w,ws[j]? = some w->∃ t,items[j]? = some (JS w t)) (hn:ws.length<=1000)
  (hR:∀ h' tk,h'.DictOf (PySem.strKind prog w) D ((bM ws).map fun k=>(k,FE))->(∀ b o,b≠D->b≠I->h0.get? b=some o->h'.get? b=some o)->R (.ok (.ret (.ref D))) {s with heap:=h',toks:=tk}) :
  ∀ (k j:Nat) (h:Heap) (tk:Nat),ws.length - j=k->j<=ws.length->h.IsListIter I l j->h.DictOf (PySem.strKind prog w) D ((bM (ws.take j)).map fun k=>(k,FE))->(∀ b o,b≠D->b≠I->h0.get? b=some o->h.get? b=some o)->
   GR (model prog w) A (.builtin "dict.fromkeys.loop" ⟨[.ref D,.ref I,.none],[]⟩) R {s with heap:=h,toks:=tk}:=by
 intro k
 induction k with
 | zero=>
  intro j h tk hk hj hI hD keep;obtain rfl:j=ws.length:=by omega
  rw [List.take_length] at hD
  refine Fg m6 ?_
  rw [Around.under_plainId iC _]
  show wpAny _ _ (pyNext (.ref I) >>= _) _ _ _
  refine ED (wpAny_pyNext_list_end (s:={s with heap:=h,toks:=tk}) hh hI (let ⟨o,e,r⟩:=hl;⟨o,keep _ _ hlD hlI e,r⟩) (by rw [Array.getElem?_eq_none_iff];omega) fun h' hx=>?_)
  exact EI (hR h' tk (hD.extBut hx hDI) fun b o b1 b2 e=>hx b o b2 (keep b o b1 b2 e))
 | succ k ih=>
  intro j h tk hk hj hI hD keep;have hjl:j<ws.length:=by omega
  obtain ⟨t,ht⟩:=hws j _ (Eb hjl);refine Fg m6 ?_
  rw [Around.under_plainId iC _]
  show wpAny _ _ (pyNext (.ref I) >>= _) _ _ _
  refine ED (wpAny_pyNext_list_item (s:={s with heap:=h,toks:=tk}) hI (let ⟨o,e,r⟩:=hl;⟨o,keep _ _ hlD hlI e,r⟩) ht fun h' hI' hs=>?_)
  have hD':=hD.sameBut hs hDI
  show wpAny _ _ (typeOf (.ref D) >>= _) _ _ _
  refine ED (I8 hD'.typeIs ?_)
  rw [if_pos (by decide)]
  refine ED (EI (ED (E1 (wpAny_dictSet_pairs (knd:=PySem.strKind prog w) (k:=ws[j]) (key:=.str ws[j] t) (beq_self_eq_true _) hD' (fun h2 hD2 hs2=>?_) ?_))))
  ·rw [pM] at hD2
   refine EI ⟨Hk iC _,?_⟩;refine ih (j+1) h2 (tk+1) (by omega) hjl ?_ ?_ fun b o b1 b2 e=>(hs2.2 b b1).trans ((hs.2 b b2).trans (keep b o b1 b2 e))
   ·obtain ⟨o,e,r⟩:=hI'
    exact ⟨o,(hs2.2 _ (Ne.symm hDI)).trans e,r⟩
   ·rw [Jp,Eb hjl]
    show h2.DictOf _ D ((bM (ws.take j++[ws[j]])).map _)
    rw [en];exact hD2
  ·rw [EF]
   have:=uT (ws.take j)
   rw [Im] at this
   rw [ER];omega
end
end
section
open PySem.Calls PySem.Builtin
section
variable {M:Model} {A:Around} {E:Value->Shared->Prop} {s:Shared}
theorem pt {pos:Pos} {u:Addr} {first:List Value} {args:List (Bool×Sem Value)} {Q:Value->Shared->Prop} (hplain:args.any (·.1)=false)
  (h:wpAny M A (Ka (.ref u) true args []) (fun x s₁=>s₁.heap.get? u=some jh/\wpAny M A (call (.ref u) (first++x.pos) x.kw) Q E s₁) E s):wpAny M A (HO pos (.ref u) first args []) Q E s:=by
 unfold HO
 refine ED (E1 (Es h (fun x s₁ h₁=>ED (FT ?_)) fun zz zz x=>x))
 obtain ⟨ho,hcall⟩:=h₁
 have hs:(args.any (·.1) || ([]:List (Option Str×Sem Value)).any (·.1.isNone))=false:=by rw [hplain];rfl
 refine ED (m:=LZ (.ref u)) ?_
 unfold LZ
 refine ED (KP ho ?_)
 refine KFB.if_so (c:=(Fa "builtin_function_or_method" != Fa "method")=true) (by decide) ?_
 refine GG (a:=Keeper.machine) (congrArg pure (if_pos (by decide))) ?_
 rw [hs]
 exact ED (Es hcall (fun r s₂ hr=>ED (E1 (Ll (EI hr)))) fun zz zz x=>x)
end
theorem yU:plainId "dict.fromkeys" = true:=by decide +kernel
theorem ue:isType (.type "dict")=pure true:=by first | rfl | kernel_rfl
section
variable {prog:Fq} {w:World} {A:Around} {E:Value->Shared->Prop} {s:Shared}
theorem yu {Q:Value->Shared->Prop} {l:Addr} {items:Array Value} {ws:List Str} (hh:A.handled=none) (hl:s.heap.IsList l items) (hsz:items.size=ws.length) (hws:∀ (j:Nat) w,ws[j]? = some w->∃ t,items[j]? = some (JS w t)) (hn:ws.length<=1000)
  (hQ:∀ h' tk,h'.DictOf (PySem.strKind prog w) s.heap.objs.size ((bM ws).map fun k=>(k,FE))->(∀ b o,s.heap.get? b=some o->h'.get? b=some o)->Q (.ref s.heap.objs.size) {s with heap:=h',toks:=tk}) :
  wpAny (model prog w) A.in1 (Ep.«dict.fromkeys» ⟨[.type "dict",.ref l],[]⟩) (fun fin s'=>match fin with | .done (.ret r)=>Q r s' | .done _=>False | .again c'=>c'.quiet=true/\GR (model prog w) A c' (fun r s'=>match r with | .ok (.ret v)=>Q v s' | .ok _=>False | .error e=>E e s') s') E s:=by
 unfold Ep.«dict.fromkeys»
 refine ED (GG (a:=true) ue ?_)
 refine KFB.if_not rfl ?_
 refine ED (GG (a:=true) F.kt_sub_dict ?_)
 refine KFB.if_not rfl ?_
 refine KFB.if_not rfl ?_
 refine ED (IK (ED (EI ?_)))
 refine ED (sL ?_)
 obtain ⟨ol,hol,hcl,nl,hdl⟩:=hl
 have hlt:=Ed hol
 have hl1:(s.heap.push emptyDict).IsList l items:=⟨ol,EM _ hol,hcl,nl,hdl⟩
 have hD:(s.heap.push emptyDict).DictOf (PySem.strKind prog w) s.heap.objs.size []:=Heap.DictOf.new s.heap
 refine E1 (ED (I8 (s:={s with heap:=s.heap.push emptyDict}) hl1.typeIs (ED (I8 (s:={s with heap:=s.heap.push emptyDict}) hD.typeIs ?_))))
 refine KFB.if_not rfl ?_
 refine ED (I8 (s:={s with heap:=s.heap.push emptyDict}) hD.typeIs ?_)
 refine KFB.if_not rfl ?_
 refine ED (Hn (s:={s with heap:=s.heap.push emptyDict}) hl1 ?_)
 refine EI ⟨Hk iC _,?_⟩
 have' hI:((s.heap.push emptyDict).push {cls:=.type "list_iterator",data:=.fields #[.ref l,.int 0 0]}).IsListIter (s.heap.push emptyDict).objs.size l 0:=⟨_,ES _ rfl,rfl,rfl⟩
 have hz:(s.heap.push emptyDict).objs.size=s.heap.objs.size+1:=EU ..
 refine z7 (s:=s) (h0:=(s.heap.push emptyDict).push {cls:=.type "list_iterator",data:=.fields #[.ref l,.int 0 0]}) hh (by rw [hz];exact FG (E6 _)) ⟨ol,EM _ (EM _ hol),hcl,nl,hdl⟩ (FG hlt) (by rw [hz];exact FG (HJ hlt)) hsz hws hn
  (fun h' tk hd keep=>hQ h' tk hd fun b o e=>keep b o (FG (Ed e)) (by rw [hz];exact FG (HJ (Ed e))) (EM _ (EM _ e)))
  ws.length 0 _ s.toks rfl (En _) hI (hD.push _) fun zz zz zz zz e=>e
end
section
variable {C:Cx} {lv:Lv} {N:aF} {ρ ρ₁ ρ₂:aO} {σ σ₁ σ₂:aC} {ob e:Expr} {apos pos:Pos} {ws:List Str}
theorem nu (ho:aG C lv N ob ρ σ (.con (.type "dict")) ρ₁ σ₁) (he:aG C lv N e ρ₁ σ₁ (.dat (.list (ws.map .str))) ρ₂ σ₂) (hz:ws.length<=1000) (hq:lv.q=true) (hn:autoParam (cA e=true) aR)
  (hw:∀ env,∃ pl,eval (.Call (.Attribute ob "fromkeys" apos) [e] [] pos) env=(do
   let ov <- eval ob env
   HT apos.atName
   let (f,first) <- Hx [ov] (IW ov "fromkeys" pl)
   HO pos f first (backTo pos (Fy [e] env)) (HE pos (GH [] env)))):aG C lv N (.Call (.Attribute ob "fromkeys" apos) [e] [] pos) ρ σ (.ref σ₂.length) ρ₂ (σ₂++[.sdict (bM ws)]):=by
 intro A env μ s Q E ok G F hQ
 obtain ⟨pl,hw⟩:=hw env
 refine LA (ho A env μ s _ _ ok G F fun v μ1 s1 P1 hv=>?_) hw
 obtain rfl:v=.type "dict" := hv
 with_reducible refine yr (P1.good.inK ok) ?_
 dsimp only
 have k1:aL A0 NoW s1 {s1 with heap:=s1.heap.push jh,toks:=s1.toks+1}:=ab (by rw [EU];exact Ej _) fun zz zz e=>EM _ e
 have P1':=P1.trans (aS.grow P1.good P1.fr k1)
 have' hu:(s1.heap.push jh).get? s1.heap.objs.size=some jh:=ES _ rfl
 refine pt (bg (es:=[e]) (by rw [GJ,hn];rfl)) ?_
 rw [a7 hn]
 refine FS (FW (he A env μ1 _ _ _ ok P1'.good P1'.fr fun v μ2 s2 P2 hv=>Fs ?_))
 have hu2:s2.heap.get? s1.heap.objs.size=some jh:=by
  refine P2.kept.at (fun q=>?_) (fun q=>?_) hu
  ·exact absurd (P1.good.lt _ (dC P1'.good.sim P1'.fr _ q)) (E5 _)
  ·exact absurd (P1.good.lt _ (P1.good.frs.fa q).1) (E5 _)
 obtain ⟨as,r⟩:=hv
 cases r using RL with
 | @list l ob items n as hob hc hd hr=>
  have hlen:items.size=ws.length:=(a9 hr).trans (EF ..);refine ⟨hu2,zC hu2 ?_⟩
  rw [Around.under_plainId yU _]
  refine yu (P2.good.quiet hq) ⟨_,Ez _ hob,hc,n,hd⟩ hlen (fun j w hw=>?_) hz fun h' tk hdic keep=>?_
  ·have hj:j<items.size:=by rw [hlen];exact (EL.mp hw).1
   obtain ⟨u,hu'⟩:∃ u,items[j]? = some u:=⟨_,HF hj⟩;obtain ⟨bs,rr⟩:=bh hr j u (.str w) (by rw [Ii];exact hu') (by simp [hw])
   cases rr using RS with
   | str t=>exact ⟨t,hu'⟩
  ·obtain ⟨o,es,ep,hg,_⟩:=id hdic
   have' k2:aL A0 NoW s2 {s2 with heap:=h',toks:=tk}:=ab (El (Ed hg)) keep;have P3:=aS.alloc (a:=s2.heap.objs.size) (fp:=[s2.heap.objs.size]) (o:=.sdict (bM ws)) P2.good P2.fr k2 (fun b hb=>by rw [EJ.mp hb];exact ⟨EK _,Ed hg⟩) (.head _) ⟨rfl,hdic⟩
   exact hQ _ _ _ (P1'.trans (P2.trans P3)) ⟨_,by show (μ2.objs++[_])[σ₂.length]? = _;rw [<- P2.good.sim.len];exact EY,rfl⟩
end
end
section
open PySem.Calls PySem.Builtin
section
variable {C:Cx} {lv:Lv} {N:aF} {ρ ρ₁ ρ₂:aO} {σ σ₁ σ₂:aC} {e:Expr} {apos pos pos' np:Pos} {xs:List Str} {i:Nat}
theorem rX (hx:σ[i]? = some (.sdict xs)):fH C lv σ (.builtin "isinstance") [.ref i,.con (.type "dict")] (.bool true):=by
 intro A μ s vs Q E ok G r hQ
 obtain ⟨v,c,rfl,⟨p,hp,hv⟩,hc⟩:=r.e2
 obtain rfl:c=.type "dict" := hc
 subst hv
 obtain ⟨e,hd⟩:=G.sim.rep i p _ hp hx
 exact call_isinstance (isinstance_true (by show pure (Fa ((Manifest.find? "dict").elim "type" fun x=>x.metatype))=_;rw [IF];kernel_rfl) F.kt_sub_dict) ⟨hd.typeIs,hQ _ s [] (aL.refl _ _ _) (.bool _)⟩
theorem vM {h h':Heap} {prog:Fq} {w:World} {lo:Addr} {as:List Addr} {xs:List Str} (hc:∀ a∈as,∀ o,h.get? a=some o->h'.get? a=some o) (hl:as.length=xs.length) (g:KdxG (PySem.strKind prog w) (xs.map fun k=>(k,FE)) lo h as) :
  ∃ bs,FZ h' (as.map Fj) (xs.map fun k=>.tuple [.str k,.none]) bs:=by
 refine gc (by simp [hl]) fun j v d hv hd=>?_
 rw [Em] at hv hd
 obtain ⟨a,ha,rfl⟩:=FP.mp hv
 obtain ⟨k,hk,rfl⟩:=FP.mp hd
 obtain ⟨key,k',x,h1,h2,h3⟩:=g.pairs j a ha
 rw [Em,hk] at h1
 cases h1
 obtain ⟨t,rfl⟩:=Value.isStrOf_shape h2
 exact ⟨_,.tuple (hc a (EN ha) _ h3) rfl rfl (.cons (.str _ _) (.cons .none .nil))⟩
theorem mD {x:Str} (hf:aG C lv N (.Name x np) ρ σ (.con (.type "list")) ρ σ) (h:aG C lv N e ρ σ (.ref i) ρ₁ σ₁) (hx:σ₁[i]? = some (.sdict xs)) (hz:xs.length<=1000) (hq:autoParam (lv.q=true) aR) (hbase:autoParam (∀ env,HR e "items" env (eval e env)=eval e env) aI) (hline:autoParam ((apos.endLine==pos.line)=true) aR) :
  aG C lv N (.Call (.Name x np) [.Call (.Attribute e "items" apos) [] [] pos] [] pos') ρ σ (.dat (.list (xs.map fun k=>.tuple [.str k,.none]))) ρ₁ σ₁:=by
 intro A env μ s Q E ok G F hQ
 refine GL (hf A env μ s _ _ ok G F fun v μ0 s0 P0 hv=>?_)
 obtain rfl:=hv
 refine PySem.callWith_type rfl (FS (FW (?_:wpAny _ _ (eval (.Call (.Attribute e "items" apos) [] [] pos) env) _ _ _)))
 refine IR (hbase env) hline (h A env μ0 s0 _ _ ok P0.good P0.fr fun v μ1 s1 P1 r=>⟨"dict", "dict.items",PySem.F.plainAttrs_dict,PySem.F.slot_dict_items,PySem.F.type_dict_items,?_⟩)
 obtain ⟨p,hp,rfl⟩:=r
 obtain ⟨e1,hdict⟩:=P1.good.sim.rep i p _ hp hx
 have hsys:=P1.good.notSys ok (aj (EN hp) (by rw [e1];exact .head _))
 refine ⟨hdict.typeIs,fun b hb=>?_,?_⟩
 ·cases hb
  obtain ⟨o,es,ep,ho,hc,_⟩:=hdict;exact ⟨o,ho,hc.2.1⟩
 refine Fx rfl (PySem.evalArgs_none (KN PySem.F.slot_dict_items hdict.typeIs PySem.F.entry_dict_items (PySem.F.args_dict_items_1 _) (meets_dict_items (PySem.strKind C.prog C.w) p.1 hsys) ⟨⟨_,hdict⟩,?_⟩))
 have' k1:aL A0 NoW s1 {s1 with heap:=s1.heap.push {cls:=.type "dict_items",data:=.fields #[.ref p.1]}}:=bD _ _
 have P2:=P1.trans (aS.grow P1.good P1.fr k1)
 have hv:(s1.heap.push {cls:=.type "dict_items",data:=.fields #[.ref p.1]}).IsItemsView s1.heap.objs.size p.1:=⟨_,ES _ rfl,rfl,rfl⟩
 obtain ⟨ep,hat⟩:=(hdict.push {cls:=.type "dict_items",data:=.fields #[.ref p.1]}).dictAt
 generalize hs2:({s1 with heap:=s1.heap.push {cls:=.type "dict_items",data:=.fields #[.ref p.1]}}:Shared)=s2 at *
 have' hh2:s1.heap.push {cls:=.type "dict_items",data:=.fields #[.ref p.1]}=s2.heap:=by rw [<- hs2]
 rw [hh2] at hv hat
 refine Fs ?_
 refine kdx_call (s:=s2) (P1.good.quiet hq) hv hat (by rw [EF,ER];omega) fun h' tk acc c as keep hS hlen g hacc=>?_
 rw [EF] at hlen
 have' k3:aL A0 NoW s2 {s2 with heap:=h',toks:=tk}:=ab (El (Ed hS)) keep
 have' P3:=P2.trans (aS.grow P2.good P2.fr k3)
 obtain ⟨bs,ra⟩:=vM (h:=h') (h':=cL μ1.hid h') (fun a ha o ho=>Fc _ ho fun q=>absurd (P2.good.lt _ q) (E3.mpr (El (g.above a ha)))) hlen g
 exact hQ _ μ1 _ (P0.trans P3) ⟨_,.list (Fc _ hS fun q=>absurd (P2.good.lt _ q) (E5 _)) rfl rfl (by rw [hacc];exact ra)⟩
end
end
section
variable {C:Cx} (H:bH C) {fz:List Nat} {σ:aC}
include H
theorem lp {ws:List Str} (hz:ws.length<=1000):aP C 1 fz (.ref 887) [.dat (.list (ws.map .str))] [] σ (.ref σ.length) (σ++[.sdict (bM ws)]):=by
 wtm_at "De"
 case hb=>
  refine' bQ.plain ["params"] [("unhashable_fallback",.bool false)] [("unhashable_fallback",.dat (.bool false))] ?_ (fun zz zz=>⟨⟨rfl,[],.bool _⟩,trivial⟩)
  intro vs hl S
  (rcases vs with _ | ⟨v1,_ | ⟨v2,vs⟩⟩)<;>first | (cases hl;done) | (rw [bH.K (by assumption)];kernel_rfl)
 case bl=>wtm_at "Mblank"
 case st=>(simp only [F8,FX,Fp,Eo,EZ];wtm_at "Mstall")
 case hr=>exact .ret
 case h=>
  dsimp only;refine' a8 (jm (a8 (aT (nu ?o ?e hz rfl (by rfl) (by intro _;exact ⟨_,rfl⟩)))) (by intro q;cases q))
  case o=>wtm_at "Me"
  case e=>wtm_at "Me"
end
theorem Cl.of {C:Cx} {lv:Lv} {N:aF} {elt:Expr} {σ:aC} {gs:List Eu} {xs:List AV} {ρ:aO} {ds es:List PyData} (h:Cl C lv N elt σ gs xs ρ ds) (e:ds=es):Cl C lv N elt σ gs xs ρ es:=e▸h
noncomputable def wS (i:Nat):Str:=(["a", "b c", "", "d;e"]:List Str).getD i ""
theorem Cr {i:Nat} (h4:i<4):wd i=.str (wS i):=by
 have:i=0\/i=1\/i=2\/i=3:=by omega
 rcases this with rfl | rfl | rfl | rfl<;>rfl
theorem sR {is:List Nat} (h:∀ i∈is,i<4):is.map wd=(is.map wS).map .str:=by
 rw [ET];exact FR fun i hi=>Cr (h i hi)
theorem pA {i:Nat} (h4:i<4):Fo (wS i)=true:=by
 have:i=0\/i=1\/i=2\/i=3:=by omega
 rcases this with rfl | rfl | rfl | rfl<;>decide +kernel
noncomputable def jH (one other:List (List Nat)):Bool:=one.length==other.length && (one.zip other).all fun p=>b9 (p.1.map wS) (p.2.map wS)
theorem uO (bs:List Bool):((bs.map Jn).any fun y=>FF y (.bool false)) = !bs.all id:=by
 induction bs with
 | nil=>rfl
 | cons b bs ih=>rw [E9,IE,ih,GJ];cases b<;>simp [FF]
section
variable {C:Cx} (H:bH C) {fz:List Nat} {σ:aC}
include H
theorem yb {one other:List (List Nat)} (h1:∀ r∈one,∀ x∈r,x<4) (h2:∀ r∈other,∀ x∈r,x<4) (l1:one.length<=1000) (l2:other.length<=1000) (r1:∀ r∈one,r.length<=1000) (r2:∀ r∈other,r.length<=1000) (hfz:∀ i∈fz,i<σ.length) :
  aP C 4 fz (.ref 962) [.dat (.list (one.map be)),.dat (.list (other.map be))] [] σ (.dat (.bool (jH one other))) σ:=by
 wtm_at "Dp"
 case hr=>exact .ret
 case h=>
  dsimp only;have hzl:((one.zip other).map fun p=>b9 (p.1.map wS) (p.2.map wS)).length<=1000:=by rw [EF,List.length_zip];omega
  refine' aA ?s1 (gF (c:=false) (rv:=.dat .none) ?t1 (by intro q;cases q) (by intro q;cases q) (fun zz=>a8 (aT (aG.of ?s5 ?s6))))
  case s1=>
   refine' eB (ds:=((one.zip other).map fun p=>b9 (p.1.map wS) (p.2.map wS)).map .bool) ?ck ?hi ?hfr ?hcl ?hbl ?hc ?hz ?ht ?hsw ?hf ?he ?hw
   case ck=>wtm_at "Mcompok"
   case hi=>wtm_at "Mzip"
   case hf=>(intro _ _;rfl)
   case he=>(intro _;rfl)
   case hw=>(intro _;rfl)
   case hsw=>(intro _;exact ⟨_,rfl⟩)
   case hfr=>wtm_at "Mfrees"
   case hcl=>wtm_at "Mclos"
   case hbl=>wtm_at "Mblank"
   case ht=>wtm_at "Ma"
   all_goals (try dsimp only [EZ])
   case hz=>rw [EF,ER];omega
   case hc=>
    rw [List.zip_map,ET,ET]
    refine' cN rfl ?ha ?he ?hs
    case ha=>intro p hp;dsimp only [Function.comp,wA,Prod.map];wtm_at "Ma2"
    case hs=>intro p hp;wtm_at "Msub"
    case he=>
     intro p hp;obtain ⟨q1,q2⟩:p.1∈one/\p.2∈other:=⟨(List.of_mem_zip hp).1,(List.of_mem_zip hp).2⟩;have w1:=kQ H (fz:=fz) (σ:=σ) (h1 _ q1) (r1 _ q1);have w2:=kQ H (fz:=fz) (σ:=σ) (h2 _ q2) (r2 _ q2)
     rw [sR (h1 _ q1)] at w1
     rw [sR (h2 _ q2)] at w2
     have co:=q6 H (fz:=fz) (σ:=σ) (f:=p.1.map wS) (g:=p.2.map wS) (fun w hw=>by obtain ⟨i,hi,rfl⟩:=EO.mp hw;exact pA (h1 _ q1 i hi)) (fun w hw=>by obtain ⟨i,hi,rfl⟩:=EO.mp hw;exact pA (h2 _ q2 i hi))
      (by rw [EF];exact r1 _ q1) (by rw [EF];exact r2 _ q2) hfz
     refine' e6 ?f (bH.look H rfl) rfl ?l co (EK 3) (by with_unfolding_all rfl) (by with_unfolding_all rfl)
     case f=>wtm_at "Me"
     case l=>
      refine' bF ?k1 (bF ?k2 bR (by with_unfolding_all rfl)) (by with_unfolding_all rfl)
      case k1=>
       refine' e6 ?f (bH.look H rfl) rfl ?l w1 (Ej 2) (by with_unfolding_all rfl) (by with_unfolding_all rfl)
       case f=>wtm_at "Me"
       case l=>wtm_at "Ml"
      case k2=>
       refine' e6 ?f (bH.look H rfl) rfl ?l w2 (Ej 2) (by with_unfolding_all rfl) (by with_unfolding_all rfl)
       case f=>wtm_at "Me"
       case l=>wtm_at "Ml"
  case t1=>
   refine' bV (d:=.list []) ?cmp (fY (by decide))
   case cmp=>
    wtm_at "Dc"
    case hz=>decide
    case hc=>
     rw [dZ]
     refine' Cl.of (cT (p:=fun zz=>false) (f:=fun b=>.bool b) ?ha ?ht (by intro _ _ q;cases q) ?hs) ?hn
     case ha=>intro b hb;wtm_at "Ma"
     case hs=>intro b hb;wtm_at "Msub"
     case hn=>simp
     case ht=>
      intro b hb;refine cm ?_
      cases b with
      | true=>exact dF (aY.of (by wtm_at "Mt") (by decide))
      | false=>exact cD (aY.of (by wtm_at "Mt") (by decide)) (aY.of (by wtm_at "Mt") (by decide))
  case s5=>
   have e1:(((one.map be).length:Nat):Int)<2 ^ 63:=by rw [EF];omega
   have e2:(((other.map be).length:Nat):Int)<2 ^ 63:=by rw [EF];omega
   have hK:Fv (((one.zip other).map fun p=>b9 (p.1.map wS) (p.2.map wS)).map .bool)=true:=iR fun d hd=>by obtain ⟨b,_,rfl⟩:=EO.mp hd;rfl
   refine' pv ?x ?y
   case x=>wtm_at "Me"
   case y=>intro _;wtm_at "Me"
  case s6=>
   rw [uO,Bool.not_not,List.all_map]
   unfold jH
   congr 2
   rw [EF,EF]
   congr 1
   rw [FY,beq_iff_eq,beq_iff_eq];omega
end
theorem fS {α:Type} [BEq α] {f:α->PyData} (h:∀ x y,FF (f x) (f y)=(x==y)):∀ xs ys:List α,FF (.list (xs.map f)) (.list (ys.map f))=(xs==ys):=by
 intro xs
 induction xs with
 | nil=>
  intro ys
  cases ys<;>rfl
 | cons x xs ih=>
  intro ys
  cases ys with
  | nil=>rfl
  | cons y ys=>
  have ih:=ih ys
  simp only [FF] at ih
  simp only [E9,FF,PyData.eqvAll,h,ih]
  rfl
theorem Ag (x y:Nat):FF (nD x) (nD y)=(x==y):=by unfold nD;rw [FF];exact Ad
theorem vh (x y:List Nat):FF (be x) (be y)=(x==y):=fS Ag x y
theorem hY (x y:List (List Nat)):FF (gK x) (gK y)=(x==y):=fS vh x y
structure Lay (d:PyData) (k:Nat):Prop where
 lay:d.canLay0=true
 dep:d.depth<=k
theorem Lay.shaped {d:PyData} {k:Nat} (h:Lay d k) (hk:k<=64):SeqAt.shaped d=true:=by
 unfold SeqAt.shaped;rw [h.lay,LC];exact decide_eq_true (EH h.dep hk)
theorem cS {ds:List PyData} {k:Nat} (h:∀ d∈ds,Lay d k):Lay (.list ds) (k+1):=by
 have' key:∀ ds:List PyData,(∀ d∈ds,Lay d k)->Fv ds=true/\PyData.depthAll ds<=k:=by
  intro ds
  induction ds with
  | nil=>intro _;exact ⟨rfl,En _⟩
  | cons d ds ih=>
   intro h;obtain ⟨a,b⟩:=ih fun d hd=>h d (.tail _ hd)
   have c:=h d (.head _);refine ⟨by rw [Fv,c.lay,a];rfl,?_⟩
   rw [PyData.depthAll]
   exact Nat.max_le.mpr ⟨c.dep,b⟩
 obtain ⟨a,b⟩:=key ds h
 exact ⟨by rw [J8];exact a,by rw [PyData.depth];omega⟩
theorem AM (x:Nat):Lay (nD x) 0:=⟨rfl,EK _⟩
theorem nQ {x:Str} (h:Fo x=true):Lay (.str x) 0:=⟨by simp [J8,h],EK _⟩
theorem vq (r:List Nat):Lay (be r) 1:=cS fun d hd=>by obtain ⟨x,_,rfl⟩:=EO.mp hd;exact AM x
theorem dK (r:List (List Nat)):Lay (gK r) 2:=cS fun d hd=>by obtain ⟨x,_,rfl⟩:=EO.mp hd;exact vq x
theorem pO (x:Bool):Lay (.bool x) 0:=⟨rfl,EK _⟩
theorem vC (x y:List Bool):FF (.list (x.map .bool)) (.list (y.map .bool))=(x==y):=fS (fun a b=>by rw [FF]) x y

noncomputable def bU (x:Str):Str:=if x.length=0 then ("''" : Str) else if found x.cps=some false then x else (("'" : Str)++HB x "'" "'\"'\"'")++("'" : Str)
section
variable {C:Cx} (H:bH C) {fz:List Nat} {σ:aC}
include H
theorem y8 {x:Str} {b:Bool} (hb:found x.cps=some b) (hz:x.cps.size<1000) (hq:(HB x "'" "'\"'\"'").length<=100000):aP C 2 fz (.ref 879) [.dat (.str x)] [] σ (.dat (.str (bU x))) σ:=by
 have hxl:x.length<1000:=hz
 wtm_at "Dp"
 case hr=>exact .ret
 case h=>
  dsimp only;unfold bU
  by_cases h0:x.length=0
  ·rw [if_pos h0]
   refine' cB (bL (aY.of (dS (bV ?k1 (jA (x:=x) (by omega)) (by intro _;with_unfolding_all rfl))) ?e) (a8 (aT ?v))) (by intro q;cases q)
   case k1=>(refine' ec ?k1;(case k1=>wtm_at "Mload"))
   case e=>rw [h0];rfl
   case v=>wtm_at "Me"
  ·rw [if_neg h0]
   refine' aA (aN (aY.of (dS (bV ?k1 (jA (x:=x) (by omega)) (by intro _;with_unfolding_all rfl))) ?e) aH) ?r
   case k1=>wtm_at "Me"
   case e=>
    have:((x.length:Int) != 0)=true:=by rw [bne_iff_ne];omega
    rw [this];rfl
   case r=>
    by_cases hbf:b=false
    ·rw [if_pos (hbf▸hb)]
     refine' cB (bL (aY.of (lO H ?f ?x hb hz (by with_unfolding_all rfl) (by intro _;with_unfolding_all rfl) (by with_unfolding_all rfl)) (by rw [hbf];rfl)) (a8 (aT ?v))) (by intro q;cases q)
     case f=>wtm_at "Me"
     case x=>wtm_at "Me"
     case v=>wtm_at "Me"
    ·have hbt:b=true:=by cases b with
      | true=>rfl
      | false=>exact absurd rfl hbf
     rw [if_neg (by rw [hb,hbt];decide)]
     refine' aA (aN (aY.of (lO H ?f ?x hb hz (by with_unfolding_all rfl) (by intro _;with_unfolding_all rfl) (by with_unfolding_all rfl)) (by rw [hbt];rfl)) aH) (a8 (aT (cx (qd ?x2 (by decide +kernel) ?hz ?hq2 (by intro _;with_unfolding_all rfl) (by intro _;with_unfolding_all rfl) (by with_unfolding_all rfl)) nt (OpG.of2 (ym ?hs)))))
     case f=>wtm_at "Me"
     case x=>wtm_at "Me"
     case x2=>wtm_at "Me"
     case hz=>
      have:("'\"'\"'" : Str).length=5:=by decide +kernel
      rw [this];omega
     case hq2=>
      have:("'" : Str).length=1:=by decide +kernel
      rw [this,ER];omega
     case hs=>
      have:("'" : Str).length=1:=by decide +kernel
      have h2:(("'" : Str)++HB x "'" "'\"'\"'").length=1+(HB x "'" "'\"'\"'").length:=by
       show (("'" : Str).cps++(HB x "'" "'\"'\"'").cps).size=_
       rw [Array.size_append]
       exact congrArg (· + (HB x "'" "'\"'\"'").length) this
      rw [h2,this,ER];omega
end
theorem sT {P:Params}:kq (Kw P) 870 866:=⟨by decide,_,_,_,_,_,_,_,_,_,rfl,rfl,rfl,rfl,rfl,rfl,rfl,rfl,rfl⟩
section
variable {C:Cx} (H:bH C) {fz:List Nat} {σ:aC} {jp:Nat}
include H
theorem AE {ys:List Str} {b:Str->Bool} (hjp:σ[jp]? = some (.code 866)) (hjz:jp∉fz) (hb:∀ y∈ys,found y.cps=some (b y)/\y.cps.size<1000/\(HB y "'" "'\"'\"'").length<=100000) (hys:ys.length<=1000) (hj:JoinOk " " (ys.map bU)=true) :
  aP C 5 fz (.ref 871) [.dat (.list (ys.map .str))] [] σ (.dat (.str (Ib " " (ys.map bU)))) σ:=by
 refine' mS (bH.look H rfl) rfl rfl ?hcd rfl rfl rfl rfl rfl rfl ?hok ?hfree ?hb ?bl ?st ?h ?hr
 case hcd=>exact bH.code H (by kernel_rfl)
 case hok=>wtm_at "Mnames"
 case hfree=>decide
 case hb=>(refine' bQ.args ?_;wtm_at "Mpeek")
 case bl=>wtm_at "Mblank"
 case st=>(simp only [E9,Ic,F8,FX,Fp];wtm_at "Mstall")
 case hr=>exact .ret
 case h=>
  intro A env μ s Q E hcode ok G F hQ;refine' Hy (wpAny_Return_some (vW (m:=2) (ρ0:=[none,none,none]) (ρ1:=fun y=>[none,some (.dat (.str y)),none]) (f:=bU) (ys:=ys) ok rfl (by show 4<=4;decide) G F hcode (by rw [H.K];exact sT) hjp hjz ?hi ?gs ?helt hys hj ?e1 ?e2 ?e3 fun v μ2 s2 P2 r=>hQ _ μ2 s2 P2 ⟨v,rfl,r⟩))
  case hi=>
   refine' ec ?k1
   case k1=>wtm_at "Mload"
  case gs=>
   refine' ⟨?g1,?g2,rfl,rfl,?g3,?g4,?g5,?g6,?g7,?g8⟩
   case g1=>wtm_at "Mnames"
   case g2=>intro _;rfl
   case g3=>decide +kernel
   case g4=>decide +kernel
   case g5=>intro _ _;rfl
   case g6=>wtm_at "Mblank"
   case g7=>intro y;exact .there .here
   case g8=>intro y;wtm_at "Msub"
  case helt=>
   intro y hy;obtain ⟨h1,h2,h3⟩:=hb y hy;refine' ah ?f (kp_ H (by kernel_rfl)) (aZ ?l (by with_unfolding_all rfl)) (y8 H h1 h2 h3) (by show 2<=2;decide) rfl (by intro _;with_unfolding_all rfl)
   case f=>wtm_at "Me"
   case l=>wtm_at "Ml"
  case e1=>rfl
  case e2=>rfl
  case e3=>rfl
end
structure QOk (y:Str):Prop where
 found:∃ b,Mine.Internal.found y.cps=some b
 size:y.cps.size<1000
 rep:(HB y "'" "'\"'\"'").length<=100000
noncomputable def bI (ws:List Str):Str:=Ib " " (ws.map bU)
noncomputable def bZ (steps:List (List Str)):Str:=bI (steps.map bI)
section
variable {C:Cx} (H:bH C) {fz:List Nat} {σ:aC} {jp:Nat}
include H
theorem nG {ys:List Str} (hjp:σ[jp]? = some (.code 866)) (hjz:jp∉fz) (hb:∀ y∈ys,QOk y) (hys:ys.length<=1000) (hj:JoinOk " " (ys.map bU)=true) :
  aP C 5 fz (.ref 871) [.dat (.list (ys.map .str))] [] σ (.dat (.str (bI ys))) σ:=
 AE H (b:=fun y=>(found y.cps).getD false) hjp hjz (fun y hy=>⟨by obtain ⟨b,e⟩:=(hb y hy).found;rw [e];rfl,(hb y hy).size,(hb y hy).rep⟩) hys hj
theorem uQ {steps:List (List Str)} (hjp:σ[jp]? = some (.code 866)) (hjz:jp∉fz) (hs:steps.length<=1000) (h1:∀ ws∈steps,ws.length<=1000/\(∀ y∈ws,QOk y)/\JoinOk " " (ws.map bU)=true/\QOk (bI ws)) (h2:JoinOk " " ((steps.map bI).map bU)=true) :
  aP C 7 fz (.ref 967) [.dat (.list (steps.map fun ws=>.list (ws.map .str)))] [] σ (.dat (.str (bZ steps))) σ:=by
 wtm_at "Dp"
 case hr=>exact .ret
 case h=>
  dsimp only;refine' a8 (aT (ah ?f (kp_ H (by kernel_rfl)) (aZ (bF ?x bR (by with_unfolding_all rfl)) (by with_unfolding_all rfl)) (nG H (ys:=steps.map bI) hjp hjz ?hb ?hys h2) (by show 5<=6;decide) rfl (by intro _;with_unfolding_all rfl)))
  case f=>wtm_at "Me"
  case hys=>rw [EF];exact hs
  case hb=>
   intro y hy;obtain ⟨ws,hw,rfl⟩:=EO.mp hy;exact (h1 ws hw).2.2.2
  case x=>
   rw [ET]
   wtm_at "Dc"
   case hz=>rw [EF,ER];omega
   case hc=>
    rw [ET]
    refine' cN rfl ?ha ?hee ?hsu
    case ha=>intro ws hw;dsimp only [Function.comp];wtm_at "Ma"
    case hsu=>intro ws hw;wtm_at "Msub"
    case hee=>
     intro ws hw;obtain ⟨a1,a2,a3,_⟩:=h1 ws hw;refine' ah ?f (kp_ H (by kernel_rfl)) (aZ ?l (by with_unfolding_all rfl)) (nG H hjp hjz a2 a1 a3) (by show 5<=6;decide) rfl (by intro _;with_unfolding_all rfl)
     case f=>wtm_at "Me"
     case l=>wtm_at "Ml"
end
section
variable {C:Cx} (H:bH C)
include H
theorem cY:cE C.K 717:=by constructor<;>(rw [H.K];kernel_rfl)
theorem dY:cE C.K 852:=by constructor<;>(rw [H.K];kernel_rfl)
end
noncomputable def eR (x:Str) (p:Nat):List (Str×AV):=[("_StringIO__newline",.dat (.str "\n")),("_StringIO__buf",.dat (.str x)),("_StringIO__pos",.dat (.int (p:Int)))]
section
variable {C:Cx} (H:bH C) {fz:List Nat} {σ:aC} {k:Nat} {x:Str} {p:Nat}
include H
theorem tD (hx:σ[k]? = some (.inst 717 (eR x p))):aP C 1 fz (.ref 501) [.ref k] [] σ (.dat .none) σ:=by
 wtm_at "Dp"
 case hr=>exact .nxt
 case h=>
  dsimp only;refine' aE (aN (aY.of (ai (bW ?o (cI hx (cY H) (fd_ H (by kernel_rfl)) rfl)) ix (OpG.of2 (xO rfl))) ?e) aH)
  case o=>wtm_at "Me"
  case e=>rfl
theorem nq {s:Str} (hx:∃ xs,σ[k]? = some (.inst 717 xs)/\xs.lookup ("_StringIO__newline" : Str)=some (AV.dat (.str "\n"))):aP C 1 fz (.ref 494) [.ref k,.dat (.str s)] [] σ (.dat (.str s)) σ:=by
 obtain ⟨xs,hx,hl⟩:=hx
 wtm_at "Dp"
 case hr=>exact .ret
 case h=>
  dsimp only;refine' aA ?s1 (aA (aN (aY.of ?t2 ?d2) aH) (aA (aN (fA (aY.of ?t3 ?d3) (aY.of ?t4 ?d4)) aH) (a8 (aT ?s5))))
  case s1=>
   refine' aB ?v ?t
   case v=>
    refine' bW ?o (cI hx (cY H) (fd_ H (by kernel_rfl)) hl)
    case o=>wtm_at "Me"
   case t=>wtm_at "Ma"
  case t2=>wtm_at "Mt"
  case d2=>rfl
  case t3=>wtm_at "Mt"
  case d3=>decide +kernel
  case t4=>wtm_at "Mt"
  case d4=>decide +kernel
  case s5=>wtm_at "Me"
end
section
variable {C:Cx} (H:bH C) {fz:List Nat} {σ:aC} {k:Nat} {x:Str} {p:Nat}
include H
theorem pN {w:Str}:aP C 1 fz (.ref 183) [.dat (.int 1),.dat (.str w)] [] σ (.dat (.int 1)) σ:=by
 wtm_at "Dp"
 case hr=>exact .ret
 case h=>
  dsimp only;refine' aA (aN (dF (aY.of (ai (ct ?f ?l wL (by with_unfolding_all rfl)) ?r iG) ?e)) aH) (aA ?s2 (aA (aN (fA (aY.of ?t3 ?d3) (aY.of ?t4 ?d4)) aH) (a8 (aT ?s5))))
  case f=>wtm_at "Me"
  case l=>wtm_at "Ml"
  case r=>wtm_at "Me"
  case e=>decide
  case s2=>
   refine' aB ?v ?t
   case v=>
    refine' ct ?f ?l zS (by with_unfolding_all rfl)
    case f=>wtm_at "Me"
    case l=>wtm_at "Ml"
   case t=>wtm_at "Ma"
  case t3=>wtm_at "Mt"
  case d3=>decide
  case t4=>wtm_at "Mt"
  case d4=>decide
  case s5=>wtm_at "Me"
theorem us (hx:σ[k]? = some (.inst 717 (eR x p))) (hp:x.length<=p) (hz:x.length<=100000):aP C 2 fz (.ref 663) [.ref k,.dat (.int 1)] [] σ (.dat (.str "")) σ:=by
 wtm_at "De"
 case hb=>
  refine' bQ.plain ["self", "size"] [] [] ?_ (fun zz zz=>trivial)
  wtm_at "Mpeek"
 case bl=>wtm_at "Mblank"
 case st=>(simp only [F8,FX,Fp,Eo,EZ,FH];wtm_at "Mstall")
 case hr=>exact .ret
 case h=>
  dsimp only;refine' aA (aN (aY.of ?t1 ?d1) aH) (aA ?s2 (aA ?s3 (aA ?s4 (aA ?s5 (cB (bL (aY.of ?t6 ?d6) (a8 (aT ?s6))) (by intro q;cases q))))))
  case t1=>wtm_at "Mt"
  case d1=>rfl
  case s2=>
   refine' aB ?v ?t
   case v=>
    refine' ah ?f (kp_ H (by kernel_rfl)) (aZ ?l (by with_unfolding_all rfl)) (pN H) (by show 1<=1;decide) rfl (by intro _;with_unfolding_all rfl)
    case f=>wtm_at "Me"
    case l=>wtm_at "Ml"
   case t=>wtm_at "Ma"
  case s3=>
   refine' bO (bC ?ho (bB hx (cY H) (fd_ H (by kernel_rfl)) (fn_ H (by kernel_rfl)) rfl) (kp_ H (by kernel_rfl)) b7 (tD H hx) (by show 1<=1;decide) rfl (by intro _;exact ⟨_,rfl⟩))
   case ho=>wtm_at "Me"
  case s4=>
   refine' aB ?v ?t
   case v=>
    refine' bW ?o (cI hx (cY H) (fd_ H (by kernel_rfl)) rfl)
    case o=>wtm_at "Me"
   case t=>wtm_at "Ma"
  case s5=>
   refine' aB ?v ?t
   case v=>
    refine' cu ?f (bF (bW ?o (cI hx (cY H) (fd_ H (by kernel_rfl)) rfl)) bR (by with_unfolding_all rfl)) (sQ (by omega)) (by with_unfolding_all rfl)
    case f=>wtm_at "Me"
    case o=>wtm_at "Me"
   case t=>wtm_at "Ma"
  case t6=>wtm_at "Mt"
  case d6=>exact decide_eq_true (by omega)
  case s6=>wtm_at "Me"
theorem ya {c:Nat} (hx:σ[k]? = some (.inst 717 (eR x p))) (hc:x.cps[p]? = some c) (hz:x.length<=100000) (hk:k∉fz):aP C 2 fz (.ref 663) [.ref k,.dat (.int 1)] [] σ (.dat (.str (c8 c))) (σ.set k (.inst 717 (eR x (p+1)))):=by
 have hp:p<x.length:=(F0.mp hc).1
 have' hkl:k<σ.length:=(EL.mp hx).1
 have hx2:(σ.set k (.inst 717 (eR x (p+1))))[k]? = some (.inst 717 (eR x (p+1))):=F9 hkl
 wtm_at "De"
 case hb=>
  refine' bQ.plain ["self", "size"] [] [] ?_ (fun zz zz=>trivial)
  wtm_at "Mpeek"
 case bl=>wtm_at "Mblank"
 case st=>(simp only [F8,FX,Fp,Eo,EZ,FH];wtm_at "Mstall")
 case hr=>exact .ret
 case h=>
  dsimp only;refine' aA (aN (aY.of ?t1 ?d1) aH) (aA ?s2 (aA ?s3 (aA ?s4 (aA ?s5 (aA (aN (aY.of ?t6 ?d6) aH) (aA (ρ₁:=[some (.ref k),some (.dat (.int 1)),some (.dat (.int (p:Int))),some (.dat (.int ((p:Int)+1))),none,none]) (σ₁:=σ) ?s7 (aA (σ₁:=σ.set k (.inst 717 (eR x (p+1)))) ?s8 (a8 (aT ?s9)))))))))
  case t1=>wtm_at "Mt"
  case d1=>rfl
  case s2=>
   refine' aB ?v ?t
   case v=>
    refine' ah ?f (kp_ H (by kernel_rfl)) (aZ ?l (by with_unfolding_all rfl)) (pN H) (by show 1<=1;decide) rfl (by intro _;with_unfolding_all rfl)
    case f=>wtm_at "Me"
    case l=>wtm_at "Ml"
   case t=>wtm_at "Ma"
  case s3=>
   refine' bO (bC ?ho (bB hx (cY H) (fd_ H (by kernel_rfl)) (fn_ H (by kernel_rfl)) rfl) (kp_ H (by kernel_rfl)) b7 (tD H hx) (by show 1<=1;decide) rfl (by intro _;exact ⟨_,rfl⟩))
   case ho=>wtm_at "Me"
  case s4=>
   refine' aB ?v ?t
   case v=>
    refine' bW ?o (cI hx (cY H) (fd_ H (by kernel_rfl)) rfl)
    case o=>wtm_at "Me"
   case t=>wtm_at "Ma"
  case s5=>
   refine' aB ?v ?t
   case v=>
    refine' cu ?f (bF (bW ?o (cI hx (cY H) (fd_ H (by kernel_rfl)) rfl)) bR (by with_unfolding_all rfl)) (sQ (by omega)) (by with_unfolding_all rfl)
    case f=>wtm_at "Me"
    case o=>wtm_at "Me"
   case t=>wtm_at "Ma"
  case t6=>wtm_at "Mt"
  case d6=>exact decide_eq_false (by omega)
  case s7=>
   by_cases hl:p+1<x.length
   ·refine' aq.sub (ρ₁:=[some (.ref k),some (.dat (.int 1)),some (.dat (.int (p:Int))),some (.dat (.int ((p:Int)+1))),none,none]) (bL (aY.of (cD (aY.of ?t7 ?d7) ?t8) ?d8) (aE ?t9)) ?sb
    case t7=>wtm_at "Mt"
    case d7=>decide
    case t8=>wtm_at "Mt"
    case d8=>exact decide_eq_true (by omega)
    case t9=>
     refine' aB ?v9 ?ta9
     case v9=>wtm_at "Me"
     case ta9=>wtm_at "Ma"
    case sb=>wtm_at "Msub"
   ·have' e1:(x.length:Int)=(p:Int)+1:=by omega
    refine' aq.sub (ρ₁:=[some (.ref k),some (.dat (.int 1)),some (.dat (.int (p:Int))),some (.dat (.int (x.length:Int))),none,none]) (aN (aY.of (cD (aY.of ?t7 ?d7) ?t8) ?d8) aH) ?sb
    case t7=>wtm_at "Mt"
    case d7=>decide
    case t8=>wtm_at "Mt"
    case d8=>exact decide_eq_false (by omega)
    case sb=>rw [e1];wtm_at "Msub"
  case s8=>
   refine' aq.st (aB (a:=.dat (.int ((p:Int)+1))) ?v ?t) rfl
   case v=>wtm_at "Me"
   case t=>
    refine' b8 ?k1 (bj hx hk (cY H) (fd_ H (by kernel_rfl)) (by show 3<1000;decide))
    case k1=>wtm_at "Me"
  case s9=>
   refine' aG.of (rO (i:=(p:Int)) (j:=(p:Int)+1) (bW ?o (cI hx2 (cY H) (fd_ H (by kernel_rfl)) rfl)) ?lo ?hi (by rw [ER];omega)) ?e9
   case o=>wtm_at "Me"
   case lo=>wtm_at "Me"
   case hi=>wtm_at "Me"
   case e9=>exact congrArg (fun y=>AV.dat (.str y)) (vP hc)
end
section
variable {C:Cx} (H:bH C) {fz:List Nat} {σ:aC} {x:Str}
include H
theorem vK (hfz:∀ i∈fz,i<σ.length):aP C 2 fz (.ref 487) [.ref σ.length,.dat (.str x)] [] (σ++[.inst 717 []]) (.dat .none) (σ++[.inst 717 (eR x 0)]):=by
 have hz:σ.length∉fz:=fun h=>absurd (hfz _ h) (E5 _)
 wtm_at "De"
 case hb=>
  refine' bQ.plain ["self", "initial_value"] [("newline",.str "\n" 938)] [("newline",.dat (.str "\n"))] ?_ (fun zz zz=>⟨⟨rfl,[],.str _ _⟩,trivial⟩)
  intro vs hl S
  (rcases vs with _ | ⟨v1,_ | ⟨v2,_ | ⟨v3,vs⟩⟩⟩)<;>first | (cases hl;done) | (rw [bH.K (by assumption)];kernel_rfl)
 case bl=>wtm_at "Mblank"
 case st=>(simp only [F8,FX,Fp,Eo,EZ];wtm_at "Mstall")
 case hr=>exact .nxt
 case h=>
  dsimp only;have hl0:∀ xs,(σ++[AO.inst 717 xs])[σ.length]? = some (.inst 717 xs):=fun xs=>EY
  have hset:∀ xs ys,(σ++[AO.inst 717 xs]).set σ.length (.inst 717 ys)=σ++[.inst 717 ys]:=fun xs ys=>by rw [Eh _ _ (EK _),GB];rfl
  refine' aA (aN (aY.of (cD (aY.of ?t1 ?d1) (aY.of (b':=false) (ai (ct ?f1 ?l1 pE (by with_unfolding_all rfl)) ?r1 iG) ?e1)) ?d1b) aH)
   (aA (aN (dw (aY.of ?t2 ?d2) (dw (aY.of ?t3 ?d3) (dF (aY.of ?t4 ?d4)))) aH)
   (aA (aN (aY.of (cD (aY.of ?t5 ?d5) (aY.of (b':=false) (ai (ct ?f5 ?l5 pE (by with_unfolding_all rfl)) ?r5 iG) ?e5)) ?d5b) aH)
   (aA (σ₁:=σ++[.inst 717 [("_StringIO__newline",.dat (.str "\n"))]]) ?s1 (aA (σ₁:=σ++[.inst 717 [("_StringIO__newline",.dat (.str "\n")),("_StringIO__buf",.dat (.str ""))]]) ?s2 (aA (σ₁:=σ++[.inst 717 (eR "" 0)]) ?s3
   (aE (bL (aY.of ?t6 ?d6) (aE ?s4))))))))
  case t1=>wtm_at "Mt"
  case d1=>rfl
  case f1=>wtm_at "Me"
  case l1=>wtm_at "Ml"
  case r1=>wtm_at "Me"
  case e1=>decide
  case d1b=>rfl
  case t2=>wtm_at "Mt"
  case d2=>rfl
  case t3=>wtm_at "Mt"
  case d3=>decide +kernel
  case t4=>wtm_at "Mt"
  case d4=>decide +kernel
  case t5=>wtm_at "Mt"
  case d5=>rfl
  case f5=>wtm_at "Me"
  case l5=>wtm_at "Ml"
  case r5=>wtm_at "Me"
  case e5=>decide
  case d5b=>rfl
  case s1=>
   refine' aq.st (aB ?v ?t) ?he
   case v=>wtm_at "Me"
   case t=>
    refine' b8 ?k1 (bj (hl0 []) hz (cY H) (fd_ H (by kernel_rfl)) (by show 0<1000;decide))
    case k1=>wtm_at "Me"
   case he=>exact hset _ _
  case s2=>
   refine' aq.st (aB ?v ?t) ?he
   case v=>wtm_at "Me"
   case t=>
    refine' b8 ?k1 (bj (hl0 [("_StringIO__newline",.dat (.str "\n"))]) hz (cY H) (fd_ H (by kernel_rfl)) (by show 1<1000;decide))
    case k1=>wtm_at "Me"
   case he=>exact hset _ _
  case s3=>
   refine' aq.st (aB ?v ?t) ?he
   case v=>wtm_at "Me"
   case t=>
    refine' b8 ?k1 (bj (hl0 [("_StringIO__newline",.dat (.str "\n")),("_StringIO__buf",.dat (.str ""))]) hz (cY H) (fd_ H (by kernel_rfl)) (by show 2<1000;decide))
    case k1=>wtm_at "Me"
   case he=>exact hset _ _
  case t6=>wtm_at "Mt"
  case d6=>rfl
  case s4=>
   refine' aq.st (aB ?v ?t) ?he
   case v=>
    refine' bC ?ho (bB (hl0 (eR "" 0)) (cY H) (fd_ H (by kernel_rfl)) (fn_ H (by kernel_rfl)) rfl) (kp_ H (by kernel_rfl)) (aZ ?l (by with_unfolding_all rfl)) (nq H ⟨_,hl0 (eR "" 0),rfl⟩) (by show 1<=1;decide) rfl (by intro _;exact ⟨_,rfl⟩)
    case ho=>wtm_at "Me"
    case l=>wtm_at "Ml"
   case t=>
    refine' b8 ?k1 (bj (hl0 (eR "" 0)) hz (cY H) (fd_ H (by kernel_rfl)) (by show 3<1000;decide))
    case k1=>wtm_at "Me"
   case he=>exact hset _ _
end
section
variable {C:Cx} (H:bH C) {fz:List Nat} {σ:aC} {x:Str}
include H
theorem yj:aP C 2 fz (.ref 210) [.con (.ref 717),.dat (.str x)] [] σ (.ref σ.length) (σ++[.inst 717 []]):=by
 wtm_at "De"
 case hb=>
  refine' bQ.var2 (as:=[.con (.ref 717),.dat (.str x)]) ["cls"] "args" "kwargs" 1 [.str x] rfl ?_;intro vs hl S
  rcases vs with _ | ⟨v1,_ | ⟨v2,_ | ⟨v3,vs⟩⟩⟩<;>first | (cases hl;done) | skip
  rw [bH.K (by assumption)]
  exact on (by kernel_rfl) (fun D=>by kernel_rfl) (fun D D2=>by kernel_rfl)
 case bl=>wtm_at "Mblank"
 case st=>(simp only [F8,FX,Fp,Eo,EZ,FH];wtm_at "Mstall")
 case hr=>exact .ret
 case h=>
  dsimp only;refine' aA (aN (aY.of (cD (aY.of (ai ?f1 ?g1 (ug (a:=717) (b:=470) ?k1 ?k2 ?k3 ?k4)) ?d1) (ai ?f2 ?g2 nI)) ?d) aH) (a8 (aT ?s5))
  case f1=>wtm_at "Me"
  case g1=>wtm_at "Me"
  case f2=>wtm_at "Me"
  case g2=>wtm_at "Me"
  case d=>rfl
  case d1=>rfl
  case s5=>
   refine' sA ?o1 ?o2 (fun S=>?o3) (fun S=>?o4) (by rfl) (fun env=>⟨_,rfl⟩)
   case o1=>wtm_at "Me"
   case o2=>wtm_at "Me"
   case o3=>rw [bH.K H];kernel_rfl
   case o4=>rw [bH.K H];exact on (by kernel_rfl) (fun D=>by kernel_rfl) (fun D D2=>by kernel_rfl)
  case k1=>rw [bH.K H];rfl
  case k2=>rw [bH.K H];rfl
  case k3=>decide
  case k4=>decide
theorem Av:sf C.K 717 214 210 487:=by
 constructor<;>first | (rw [H.K];kernel_rfl) | (intro S;rw [H.K];kernel_rfl)
theorem qf (hfz:∀ i∈fz,i<σ.length):aP C 3 fz (.ref 717) [.dat (.str x)] [] σ (.ref σ.length) (σ++[.inst 717 (eR x 0)]):=
 rQ (Av H) (yj H) EY (cY H) (vK H hfz)
end
noncomputable def wcA:Str := "abcdfeghijklmnopqrstuvwxyzABCDEFGHIJKLMNOPQRSTUVWXYZ0123456789_"
noncomputable def wcB:Str := "ßàáâãäåæçèéêëìíîïðñòóôõöøùúûüýþÿÀÁÂÃÄÅÆÇÈÉÊËÌÍÎÏÐÑÒÓÔÕÖØÙÚÛÜÝÞ"
noncomputable def xg (wc:Str) (io pb fs:Nat) (com:Str) (ws:Bool) (st:PyData) (tok:Str):List (Str×AV):=
 [("instream",.ref io),("infile",.dat .none),("posix",.dat (.bool true)),("eof",.dat .none),("commenters",.dat (.str com)),("wordchars",.dat (.str wc)),("whitespace",.dat (.str " \t\r\n")),("whitespace_split",.dat (.bool ws)),
   ("quotes",.dat (.str "'\"")),("escape",.dat (.str "\\")),("escapedquotes",.dat (.str "\"")),("state",.dat st),("pushback",.ref pb),("lineno",.dat (.int 1)),("debug",.dat (.int 0)),("token",.dat (.str tok)),("filestack",.ref fs),("source",.dat .none),("_punctuation_chars",.dat (.str ""))]
noncomputable abbrev oW:=xg (wcA++wcB)
theorem xb {name:Str} {a:AV}:∀ {xs:List (Str×AV)},xs.lookup name=none->lg name a xs=xs++[(name,a)]:=by
 intro xs
 induction xs with
 | nil=>intro _;rfl
 | cons p r ih=>
  obtain ⟨y,b⟩:=p;intro h
  rw [GU] at h
  have e:(y==name)=false:=by
   rw [Ga];intro q
   rw [beq_iff_eq.mp q,beq_self_eq_true] at h
   cases h
  have' h2:r.lookup name=none:=by
   have:(name==y)=false:=by rw [Ga] at e ⊢;intro q;exact e (by rw [beq_iff_eq.mp q];exact beq_self_eq_true _)
   rw [this] at h;exact h
  show (if (y==name)=true then _ else _)=_
  rw [e]
  show (y,b) :: lg name a r=_
  rw [ih h2];rfl
section
variable {C:Cx} {lv:Lv} {N:aF} {ρ ρ₁:aO} {σ r r':aC} {c:Addr} {xs:List (Str×AV)} {a:AV}
theorem to {L:List (Str×AV)} {k:Nat} {ob value:Expr} {name:Str} {tpos pos:Pos} (hz:σ.length∉lv.fz) (hc:cE C.K c) (hv:aG C lv N value ρ (σ++.inst c (L.take k) :: r) a ρ₁ (σ++.inst c (L.take k) :: r')) (ho:aG C lv N ob ρ₁ (σ++.inst c (L.take k) :: r') (.ref σ.length) ρ₁ (σ++.inst c (L.take k) :: r'))
  (hf:findIn C.K (.ref c) name=some none) (hn:(L.take k).lookup name=none) (hk:k<1000) (hL:L[k]? = some (name,a)) (he:autoParam (∀ env,(IJ [.Attribute ob name tpos] env).map (·.2)=[assign (.Attribute ob name tpos) env]) aI)
  (hs:autoParam (∀ env,Jr [.Attribute ob name tpos] value pos.line env=pure false) aI) (hw:autoParam (∀ env,Io [.Attribute ob name tpos] value env=pure none) aI):aq C lv N (.Assign [.Attribute ob name tpos] value pos) ρ (σ++.inst c (L.take k) :: r) .nxt ρ₁ (σ++.inst c (L.take (k+1)) :: r'):=
 .st (aB hv (b8 ho (bj iH hz hc hf (Er (List.length_take_le _ _) hk))) he hs hw) (by rw [fQ,xb hn,Jp,hL];rfl)
theorem uL {name:Str} {i:Nat} (hx:σ[i]? = some (.inst c xs)) (hc:cE C.K c) (hf:findIn C.K (.ref c) name=some none) (hl:xs.lookup name=some (.dat (.bool true))):bv C lv σ (.ref i) name (.dat (.bool true)):=cI hx hc hf hl
end
section
variable {C:Cx} (H:bH C) {fz:List Nat} {σ:aC} {x:Str}
include H
theorem BO:makesIn C.K 852=true:=by rw [H.K];kernel_rfl
theorem B0:findIn C.K (.ref 852) "__init__" = some (some (.ref 776)):=by rw [H.K];kernel_rfl
theorem ub (hfz:∀ i∈fz,i<σ.length) (hxz:x.length<=100000):aP C 4 fz (.ref 776) [.ref σ.length,.dat (.str x)] [("posix",.dat (.bool true))] (σ++[.inst 852 []]) (.dat .none)
  (σ++[.inst 852 (oW (σ.length+1) (σ.length+2) (σ.length+3) "#" false (.str " ") ""),.inst 717 (eR x 0),.raw bc,.raw bc]):=by
 have' hz:σ.length∉fz:=fun h=>absurd (hfz _ h) (E5 _)
 have hfz1:∀ i∈fz,i<(σ++[AO.inst 852 []]).length:=fun i h=>by rw [EX];exact E8 (hfz i h) (EP _ _)
 have' cs:aP C 3 fz (.ref 717) [.dat (.str x)] [] (σ++[.inst 852 []]) (.ref (σ.length+1)) (σ++.inst 852 ((xg wcA (σ.length+1) (σ.length+2) (σ.length+3) "#" false (.str " ") "").take 0) :: [.inst 717 (eR x 0)]):=by
  have h:=qf H (x:=x) hfz1
  rw [FK,EX] at h
  exact h
 wtm_at "De"
 case hb=>
  refine' bQ.kw (as:=[.ref σ.length,.dat (.str x)]) (fun vs w=>(["self", "instream"]:List Str).zip vs++([("infile",.none),("posix",w),("punctuation_chars",.bool false)]:List (Str×Value))) [("self",.ref σ.length),("instream",.dat (.str x)),("infile",.dat .none),("posix",.dat (.bool true)),("punctuation_chars",.dat (.bool false))] ?_ ?_
  ·intro vs w hl S
   rcases vs with _ | ⟨v1,_ | ⟨v2,_ | ⟨v3,vs⟩⟩⟩<;>first | (cases hl;done) | (rw [bH.K (by assumption)];kernel_rfl)
  ·intro μ h vs w r rw_
   obtain ⟨v1,v2,rfl,r1,r2⟩:=r.e2;exact ⟨⟨rfl,r1⟩,⟨rfl,r2⟩,⟨rfl,[],.none⟩,⟨rfl,rw_⟩,⟨rfl,[],.bool _⟩,trivial⟩
 case bl=>wtm_at "Mblank"
 case st=>wtm_at "Mstall"
 case hr=>exact .nxt
 case h=>
  dsimp only
  show aw _ _ _ _ _ _ _ [some (.ref σ.length),some (.ref (σ.length+1)),some (.dat .none),some (.dat (.bool true)),some (.dat (.str "")),none,none,none,none,none,none,none] _
  refine' aA (ρ₁:=[some (.ref σ.length),some (.ref (σ.length+1)),some (.dat .none),some (.dat (.bool true)),some (.dat (.bool false)),none,none,none,none,none,none,none]) (σ₁:=σ++.inst 852 ((xg wcA (σ.length+1) (σ.length+2) (σ.length+3) "#" false (.str " ") "").take 0) :: [.inst 717 (eR x 0)]) (bL (aY.of ?t1 ?d1) (aE ?s1)) (aA (ρ₁:=[some (.ref σ.length),some (.ref (σ.length+1)),some (.dat .none),some (.dat (.bool true)),some (.dat (.bool false)),none,none,none,none,none,none,none]) (σ₁:=σ++.inst 852 ((xg wcA (σ.length+1) (σ.length+2) (σ.length+3) "#" false (.str " ") "").take 2) :: [.inst 717 (eR x 0)]) (bL (aY.of ?t2 ?d2) ?s2) ?nx)
  case t1=>wtm_at "Mt1"
  case d1=>rfl
  case s1=>
   refine' aB ?v ?t
   case v=>
    refine' ah ?f (kp_ H (by kernel_rfl)) (aZ ?l (by with_unfolding_all rfl)) cs (by show 3<=3;decide) rfl (by intro _;with_unfolding_all rfl)
    case f=>wtm_at "Me"
    case l=>wtm_at "Ml"
   case t=>wtm_at "Ma"
  case t2=>wtm_at "Mt1"
  case d2=>rfl
  case s2=>
   wtm_at "Mgo";wtm_at "Mgo";exact aH
  case nx=>
   wtm_at "Mgo";wtm_at "Mgo";wtm_at "Mgo";wtm_at "Mgo";refine' aA (σ₁:=σ++.inst 852 ((xg (wcA++wcB) (σ.length+1) (σ.length+2) (σ.length+3) "#" false (.str " ") "").take 6) :: [.inst 717 (eR x 0)]) (bL (aY.of ?t ?d) (aE (aq.st (fJ ?o ?g ?v (OpG.of2 (pw ?z)) ?ss) ?e))) ?_
   case t=>wtm_at "Mt1"
   case d=>rfl
   case o=>wtm_at "Me"
   case g=>exact cI iH (dY H) (fd_ H (by kernel_rfl)) (a:=.dat (.str wcA)) (by kernel_rfl) (by kernel_rfl)
   case v=>wtm_at "Me"
   case z=>rw [ER];exact EW (by kernel_rfl)
   case ss=>exact bj iH hz (dY H) (fd_ H (by kernel_rfl)) (EW (by kernel_rfl))
   case e=>rw [fQ];kernel_rfl
   wtm_at "Mgo";wtm_at "Mgo";wtm_at "Mgo";wtm_at "Mgo";wtm_at "Mgo";wtm_at "Mgo";wtm_at "Mgo";wtm_at "Mgo";wtm_at "Mgo";wtm_at "Mgo";wtm_at "Mgo";wtm_at "Mgo";wtm_at "Mgo";wtm_at "Mgo";wtm_at "Mgo";exact aH
end
noncomputable def az (σ:aC) (x:Str) (p:Nat) (st:LS) (tok:Str):aC:=σ++[.inst 852 (oW (σ.length+1) (σ.length+2) (σ.length+3) "" true st.str tok),.inst 717 (eR x p),.raw bc,.raw bc]
section
variable {C:Cx} {lv:Lv} {N:aF} {ρ:aO} {σ:aC} {x u nm v a y:Str} {i k:Nat} {p0 p1 p2 p3 p4:Pos}
theorem zk (l:bq N ρ x (.ref i)) (hg:bv C lv σ (.ref i) nm (.dat (.str v)))
  (hw:∀ env,eval (.Attribute (.Name x p1) nm p2) env=(do
   let o <- eval (.Name x p1) env
   HT p2.atName
   let r <- Hx [o] (JP o nm true)
   H1 (.Name x p1) o r
   pure r)):aY C lv N (.Compare (.Attribute (.Name x p1) nm p2) [.Eq] [.Constant (.str y) k p3] p4) ρ σ (v==y) ρ σ:=ai (bW (ec l) hg hw) nt (OpG.of2 xm)
theorem zh (l0:bq N ρ u (.dat (.str a))) (l:bq N ρ x (.ref i)) (hg:bv C lv σ (.ref i) nm (.dat (.str v)))
  (hw:∀ env,eval (.Attribute (.Name x p1) nm p2) env=(do
   let o <- eval (.Name x p1) env
   HT p2.atName
   let r <- Hx [o] (JP o nm true)
   H1 (.Name x p1) o r
   pure r)):aY C lv N (.Compare (.Name u p0) [.In] [.Attribute (.Name x p1) nm p2] p4) ρ σ (jy a v) ρ σ:=ai (ec l0) (bW (ec l) hg hw) (OpG.of2 vm)
end
section
variable {C:Cx} (H:bH C) {lv:Lv} {fz:List Nat} {σ:aC} {x:Str} {p:Nat} {st:LS} {tok:Str}
include H
theorem lxg {name:Str} {a:AV} (hf:findIn (Kw C.w.params) (.ref 852) name=some none) (hl:(oW (σ.length+1) (σ.length+2) (σ.length+3) "" true st.str tok).lookup name=some a) (ha:hG a=true):bv C lv (az σ x p st tok) (.ref σ.length) name a:=
 cI iH (dY H) (fd_ H hf) hl ha
theorem qW:bv C lv (az σ x p st tok) (.ref σ.length) "instream" (.ref (σ.length+1)):=lxg H (by kernel_rfl) (by kernel_rfl) rfl
theorem wZ:bv C lv (az σ x p st tok) (.ref σ.length) "posix" (.dat (.bool true)):=lxg H (by kernel_rfl) (by kernel_rfl) rfl
theorem AJ:bv C lv (az σ x p st tok) (.ref σ.length) "eof" (.dat .none):=lxg H (by kernel_rfl) (by kernel_rfl) rfl
theorem lh:bv C lv (az σ x p st tok) (.ref σ.length) "commenters" (.dat (.str "")):=lxg H (by kernel_rfl) (by kernel_rfl) rfl
theorem oD:bv C lv (az σ x p st tok) (.ref σ.length) "wordchars" (.dat (.str (wcA++wcB))):=lxg H (by kernel_rfl) (by kernel_rfl) rfl
theorem ln:bv C lv (az σ x p st tok) (.ref σ.length) "whitespace" (.dat (.str " \t\r\n")):=lxg H (by kernel_rfl) (by kernel_rfl) rfl
theorem uo:bv C lv (az σ x p st tok) (.ref σ.length) "quotes" (.dat (.str "'\"")):=lxg H (by kernel_rfl) (by kernel_rfl) rfl
theorem vT:bv C lv (az σ x p st tok) (.ref σ.length) "escape" (.dat (.str "\\")):=lxg H (by kernel_rfl) (by kernel_rfl) rfl
theorem jS:bv C lv (az σ x p st tok) (.ref σ.length) "escapedquotes" (.dat (.str "\"")):=lxg H (by kernel_rfl) (by kernel_rfl) rfl
theorem gd:bv C lv (az σ x p st tok) (.ref σ.length) "state" (.dat st.str):=lxg H (by kernel_rfl) (by kernel_rfl) rfl
theorem p9:bv C lv (az σ x p st tok) (.ref σ.length) "pushback" (.ref (σ.length+2)):=lxg H (by kernel_rfl) (by kernel_rfl) rfl
theorem yJ:bv C lv (az σ x p st tok) (.ref σ.length) "debug" (.dat (.int 0)):=lxg H (by kernel_rfl) (by kernel_rfl) rfl
theorem vv:bv C lv (az σ x p st tok) (.ref σ.length) "token" (.dat (.str tok)):=lxg H (by kernel_rfl) (by kernel_rfl) rfl
theorem oC:bv C lv (az σ x p st tok) (.ref σ.length) "filestack" (.ref (σ.length+3)):=lxg H (by kernel_rfl) (by kernel_rfl) rfl
theorem vU:bv C lv (az σ x p st tok) (.ref σ.length) "source" (.dat .none):=lxg H (by kernel_rfl) (by kernel_rfl) rfl
theorem BU:bv C lv (az σ x p st tok) (.ref σ.length) "_punctuation_chars" (.dat (.str "")):=lxg H (by kernel_rfl) (by kernel_rfl) rfl
theorem yF {t:Str} (hz:σ.length∉lv.fz):im C lv (az σ x p st tok) (.ref σ.length) "token" (.dat (.str t)) (az σ x p st t):=by
 have' h:=bj (C:=C) (lv:=lv) (σ:=az σ x p st tok) (a:=.dat (.str t)) (name := "token") iH hz (dY H) (fd_ H (by kernel_rfl)) (EW (by kernel_rfl))
 have e:(az σ x p st tok).set σ.length (.inst 852 (lg "token" (.dat (.str t)) (oW (σ.length+1) (σ.length+2) (σ.length+3) "" true st.str tok)))=az σ x p st t:=by unfold az;rw [fQ];kernel_rfl
 exact e▸h
theorem jJ (st':LS) (hz:σ.length∉lv.fz):im C lv (az σ x p st tok) (.ref σ.length) "state" (.dat st'.str) (az σ x p st' tok):=by
 have' h:=bj (C:=C) (lv:=lv) (σ:=az σ x p st tok) (a:=.dat st'.str) (name := "state") iH hz (dY H) (fd_ H (by kernel_rfl)) (EW (by kernel_rfl))
 have e:(az σ x p st tok).set σ.length (.inst 852 (lg "state" (.dat st'.str) (oW (σ.length+1) (σ.length+2) (σ.length+3) "" true st.str tok)))=az σ x p st' tok:=by unfold az;rw [fQ];kernel_rfl
 exact e▸h
theorem y7:aP C 1 fz (.ref 783) [.ref σ.length] [] (az σ x p st tok) (.dat (.str "")) (az σ x p st tok):=by
 wtm_at "Dp"
 case hr=>exact .ret
 case h=>
  dsimp only;refine' a8 (aT (bW ?o (BU H)))
  case o=>wtm_at "Me"
theorem xa (hm:1<lv.n) (hq:lv.q=true):bv C lv (az σ x p st tok) (.ref σ.length) "punctuation_chars" (.dat (.str "")):=
 xV (f:=783) (p:=784) (rest:=((recIn (Kw C.w.params) 784 "property").getD []).tail) iH (dY H) (fd_ H (by kernel_rfl)) (by rw [H.K];kernel_rfl) (by rw [H.K];kernel_rfl) (by rw [H.K];kernel_rfl) (y7 H) hm hq
theorem zy:bv C lv (az σ x p .S tok) (.ref σ.length) "state" (.dat (.str " ")):=gd H
theorem Ao:bv C lv (az σ x p .A tok) (.ref σ.length) "state" (.dat (.str "a")):=gd H
theorem AN:bv C lv (az σ x p .Q tok) (.ref σ.length) "state" (.dat (.str "'")):=gd H
theorem Aq:bv C lv (az σ x p .D tok) (.ref σ.length) "state" (.dat (.str "\"")):=gd H
theorem AZ:bv C lv (az σ x p .E tok) (.ref σ.length) "state" (.dat .none):=gd H
theorem C3 (hz:σ.length∉lv.fz):im C lv (az σ x p st tok) (.ref σ.length) "state" (.dat (.str " ")) (az σ x p .S tok):=jJ H .S hz
theorem Do (hz:σ.length∉lv.fz):im C lv (az σ x p st tok) (.ref σ.length) "state" (.dat (.str "a")) (az σ x p .A tok):=jJ H .A hz
theorem C0 (hz:σ.length∉lv.fz):im C lv (az σ x p st tok) (.ref σ.length) "state" (.dat .none) (az σ x p .E tok):=jJ H .E hz
end
structure CF (c:Nat) (ws qu wo:Bool):Prop where
 nl:(c8 c == "\n")=false
 ws:jy (c8 c) " \t\r\n" = ws
 co:jy (c8 c) "" = false
 es:jy (c8 c) "\\" = false
 wo:jy (c8 c) (wcA++wcB)=wo
 qu:jy (c8 c) "'\"" = qu
theorem tO {c:Nat} (h:mQ c=true):CF c false false true:=by
 simp only [mQ,Gy,beq_iff_eq] at h
 rcases h with (((rfl | rfl) | rfl) | rfl) | rfl<;>constructor<;>decide +kernel
theorem zo:CF 32 true false false:=by constructor<;>decide +kernel
theorem zn:CF 39 false true false:=by constructor<;>decide +kernel
theorem B8:CF 34 false true false:=by constructor<;>decide +kernel
theorem vg {c:Nat} (h:yy c=true):(c8 c == "\n")=false/\jy (c8 c) "\\" = false/\(c8 c == "'")=decide (c=39)/\(c8 c == "\"")=decide (c=34):=by
 simp only [yy,mQ,Gy,beq_iff_eq] at h
 rcases h with (((((((rfl | rfl) | rfl) | rfl) | rfl) | rfl) | rfl) | rfl) | rfl<;>decide +kernel
section
variable {C:Cx} (H:bH C) {lv:Lv} {fz:List Nat} {σ:aC} {x:Str} {p:Nat} {st:LS} {tok:Str} {N:aF} {ρ:aO}
include H
theorem AS {ob e:Expr} {apos pos:Pos} {s:Str} {p':Nat} (ho:aG C lv N ob ρ (az σ x p st tok) (.ref (σ.length+1)) ρ (az σ x p st tok)) (he:jQ C lv N [e] ρ (az σ x p st tok) [.dat (.int 1)] ρ (az σ x p st tok)) (hn:cA e=true)
  (hz:σ.length+1∉lv.fz) (hm:2<=lv.n) (hq:lv.q=true) (hl:x.length<=100000) (h:(∃ c,x.cps[p]? = some c/\s=c8 c/\p'=p+1)\/(x.length<=p/\s="" /\ p'=p))
  (hw:∀ env,∃ pl,eval (.Call (.Attribute ob "read" apos) [e] [] pos) env=(do
   let ov <- eval ob env
   HT apos.atName
   let (f,first) <- Hx [ov] (IW ov "read" pl)
   HO pos f first (backTo pos (Fy [e] env)) (HE pos (GH [] env)))):aG C lv N (.Call (.Attribute ob "read" apos) [e] [] pos) ρ (az σ x p st tok) (.dat (.str s)) ρ (az σ x p' st tok):=by
 have hx:(az σ x p st tok)[σ.length+1]? = some (.inst 717 (eR x p)):=i9.trans rfl
 rcases h with ⟨c,hc,rfl,rfl⟩ | ⟨hp,rfl,rfl⟩
 ·refine aG.st (bC ho (bB hx (cY H) (fd_ H (by kernel_rfl)) (fn_ H (by kernel_rfl)) rfl) (kp_ H (by kernel_rfl)) (aZ he hn) (ya H hx hc hl hz) hm hq hw) ?_
  unfold az;rw [sZ];rfl
 ·exact bC ho (bB hx (cY H) (fd_ H (by kernel_rfl)) (fn_ H (by kernel_rfl)) rfl) (kp_ H (by kernel_rfl)) (aZ he hn) (us H hx hp hl) hm hq hw
omit H in
theorem uC {y:Str}:(y == "")=(y.length==0):=by
 obtain ⟨a⟩:=y
 rw [FY,beq_iff_eq,beq_iff_eq]
 constructor
 ·intro e;rw [e];rfl
 ·intro e
  have:a = #[]:=H3 e
  rw [this];rfl
omit H in
theorem tY {test:Expr} {body orelse rest:List Stmt} {pos:Pos} {k:Nat} {ρ' ρ'':aO} {σ₀ σ' σ'':aC} {o:Out} (h:∃ ρ₂,eU C lv N test body orelse k ρ σ₀ .nxt ρ₂ σ'/\Sub ρ₂ ρ') (hr:aw C lv N rest ρ' σ' o ρ'' σ''):aw C lv N (.While test body orelse pos :: rest) ρ σ₀ o ρ'' σ'':=
 let ⟨_,w,s⟩:=h;aA (.sub (dL w) s) hr
set_option tactic.hygienic true in
theorem jx {cs:List Nat} {n2:Nat} {st2:LS} {t2:Str} {q2:Bool} (hfz:∀ i∈fz,i<σ.length) (hl:x.length<=100000) (hd:x.cps.toList.drop p=cs) (hs:eG cs st "" false=some (n2,st2,t2,q2)) :
  aP C 3 fz (.ref 820) [.ref σ.length] [] (az σ x p st "") (.dat (if !q2 && t2.length==0 then .none else .str t2)) (az σ x (p+n2) st2 ""):=by
 have hz:σ.length∉fz:=fun h=>absurd (hfz _ h) (E5 _)
 have hz1:σ.length+1∉fz:=fun h=>absurd (hfz _ h) (E3.mpr (Ej _))
 wtm_at "Dp"
 case hr=>exact .ret
 case h=>
  dsimp only;refine' aA ?s1 (aA ?s2 (tY (ka (ρs:=fun q=>[some (.ref σ.length),some (.dat (.bool q)),some (.dat (.str " ")),none,none,none,none,none]) (σs:=az σ x) ?ht ?tS ?tB ?tE ?tN cs p st "" false _ hd (En _) hs) ?rest))
  case s1=>
   refine' aB ?v ?t
   case v=>wtm_at "Me"
   case t=>wtm_at "Ma"
  case s2=>
   refine' aB ?v ?t
   case v=>wtm_at "Me"
   case t=>wtm_at "Ma"
  case ht=>intro q p st tok;wtm_at "Mt4"
  case tE=>
   intro p tok q hp;refine' ⟨[some (.ref σ.length),some (.dat (.bool q)),some (.dat (.str " ")),some (.dat (.str "")),none,none,none,none],?_,.same (.same (.same (.drop (.same (.same (.same (.same .nil)))))))⟩;wtm_at "Mhead";wtm_at "M0";wtm_at "M0";wtm_at "M0";wtm_at "M0";wtm_at "M1";wtm_at "M1";exact aA (by wtm_at "Mas") (cB gx (by intro q;cases q))
  case tN=>
   intro p tok q hp;refine' ⟨[some (.ref σ.length),some (.dat (.bool q)),some (.dat (.str " ")),some (.dat (.str "")),none,none,none,none],?_,.same (.same (.same (.drop (.same (.same (.same (.same .nil)))))))⟩;wtm_at "Mhead";wtm_at "M1";exact aA (by wtm_at "Mas") (cB gx (by intro q;cases q))
  case tB=>
   intro p tok q hc hl1 htq;have hpl:p<x.length:=(F0.mp hc).1;have n1:=zo.nl;have n2:=zo.ws;refine' ⟨[some (.ref σ.length),some (.dat (.bool q)),some (.dat (.str " ")),some (.dat (.str (c8 32))),none,none,none,none],?_,.same (.same (.same (.drop (.same (.same (.same (.same .nil)))))))⟩;wtm_at "Mhead"
   wtm_at "M0";wtm_at "M0";wtm_at "M0";wtm_at "M0";wtm_at "M1";wtm_at "M0";wtm_at "M1";refine' aA ?db (aA ?as ?_)
   case db=>wtm_at "Mdbg"
   case as=>wtm_at "Mas"
   have hbt:(tok.length:Int)<2 ^ 63:=by omega
   cases ht:((tok.length:Int) != 0) with
   | true=>
    refine' aE (bL (so (aY.of ?t ht)) (aE gx))
    case t=>wtm_at "Mt4"
   | false=>
    have' hq1:q=true:=by
     have:(tok.length != 0)=false:=by
      rw [bne_eq_false_iff_eq] at ht ⊢;omega
     rwa [this,Ip] at htq
    refine' aE (bL (fA (aY.of ?t ht) (cD (aY.of ?t2 ?d2) (aY.of ?t3 hq1))) (aE gx))
    case t=>wtm_at "Mt4"
    case t2=>wtm_at "Mt4"
    case d2=>rfl
    case t3=>wtm_at "Mt4"
  case tS=>
   intro p c st tok q st' tok' q' hc hl1 hne hs;have hpl:p<x.length:=(F0.mp hc).1
   cases st with
   | S=>
    simp only [gw] at hs
    split at hs
    ·rename_i hw
     cases hs
     obtain ⟨n1,n2,n3,n4,n5,n6⟩:=tO hw;refine' ⟨[some (.ref σ.length),some (.dat (.bool q)),some (.dat (.str " ")),some (.dat (.str (c8 c))),none,none,none,none],.nxt,?_,.inl rfl,.same (.same (.same (.drop (.same (.same (.same (.same .nil)))))))⟩;wtm_at "Mhead";wtm_at "M0";wtm_at "M1";wtm_at "M0";wtm_at "M0"
     wtm_at "M0";wtm_at "M0";wtm_at "M1";exact aA (by wtm_at "Mas") (aE (by wtm_at "Mas"))
    ·split at hs
     ·rename_i h39
      cases hs;subst h39
      obtain ⟨n1,n2,n3,n4,n5,n6⟩:=zn;refine' ⟨[some (.ref σ.length),some (.dat (.bool q)),some (.dat (.str " ")),some (.dat (.str (c8 39))),none,none,none,none],.nxt,?_,.inl rfl,.same (.same (.same (.drop (.same (.same (.same (.same .nil)))))))⟩;wtm_at "Mhead";wtm_at "M0";wtm_at "M1";wtm_at "M0";wtm_at "M0"
      wtm_at "M0";wtm_at "M0";wtm_at "M0";wtm_at "M0";wtm_at "M1";refine' aA (aN (aY.of ?t ?d) aH) (aE ?as)
      case t=>wtm_at "Mt4"
      case d=>rfl
      case as=>wtm_at "Mnq"
     ·cases hs
   | A=>
    simp only [gw] at hs
    split at hs
    ·rename_i h39
     cases hs;subst h39
     obtain ⟨n1,n2,n3,n4,n5,n6⟩:=zn;refine' ⟨[some (.ref σ.length),some (.dat (.bool q)),some (.dat (.str " ")),some (.dat (.str (c8 39))),none,none,none,none],.nxt,?_,.inl rfl,.same (.same (.same (.drop (.same (.same (.same (.same .nil)))))))⟩;wtm_at "Mhead";wtm_at "M0";wtm_at "M0";wtm_at "M0";wtm_at "M0"
     wtm_at "M1";wtm_at "M0";wtm_at "M0";wtm_at "M0";wtm_at "M0";wtm_at "M1";exact aE (by wtm_at "Mnq")
    ·split at hs
     ·rename_i h34
      cases hs;subst h34
      obtain ⟨n1,n2,n3,n4,n5,n6⟩:=B8;refine' ⟨[some (.ref σ.length),some (.dat (.bool q)),some (.dat (.str " ")),some (.dat (.str (c8 34))),none,none,none,none],.nxt,?_,.inl rfl,.same (.same (.same (.drop (.same (.same (.same (.same .nil)))))))⟩;wtm_at "Mhead";wtm_at "M0";wtm_at "M0";wtm_at "M0";wtm_at "M0"
      wtm_at "M1";wtm_at "M0";wtm_at "M0";wtm_at "M0";wtm_at "M0";wtm_at "M1";exact aE (by wtm_at "Mnq")
     ·split at hs
      ·rename_i hw
       cases hs
       obtain ⟨n1,n2,n3,n4,n5,n6⟩:=tO hw;refine' ⟨[some (.ref σ.length),some (.dat (.bool q)),some (.dat (.str " ")),some (.dat (.str (c8 c))),none,none,none,none],.nxt,?_,.inl rfl,.same (.same (.same (.drop (.same (.same (.same (.same .nil)))))))⟩;wtm_at "Mhead";wtm_at "M0";wtm_at "M0";wtm_at "M0";wtm_at "M0"
       wtm_at "M1";wtm_at "M0";wtm_at "M0";wtm_at "M0";wtm_at "M0";wtm_at "M0";wtm_at "M0";refine' aE (bL (so (aY.of ?t n5)) ?_)
       case t=>wtm_at "Mt4"
       exact aE (by wtm_at "Mcat")
      ·cases hs
   | Q=>
    simp only [gw] at hs
    split at hs
    ·rename_i hw
     obtain ⟨n1,n4,n5,n6⟩:=vg hw
     split at hs
     ·rename_i h9
      cases hs
      have n7:(c8 c == "'")=true:=n5.trans (decide_eq_true h9);refine' ⟨[some (.ref σ.length),some (.dat (.bool true)),some (.dat (.str " ")),some (.dat (.str (c8 c))),none,none,none,none],.nxt,?_,.inl rfl,.same (.same (.same (.drop (.same (.same (.same (.same .nil)))))))⟩;wtm_at "Mhead";wtm_at "M0"
      wtm_at "M0";wtm_at "M1";refine' aA ?a (aA (aN (aY.of ?t ?d) aH) ?_)
      case a=>wtm_at "Mqt"
      case t=>wtm_at "Mt4"
      case d=>rfl
      wtm_at "M1";wtm_at "M0";exact aE (by wtm_at "Mas")
     ·rename_i h9
      cases hs
      have n7:(c8 c == "'")=false:=n5.trans (decide_eq_false h9);refine' ⟨[some (.ref σ.length),some (.dat (.bool true)),some (.dat (.str " ")),some (.dat (.str (c8 c))),none,none,none,none],.nxt,?_,.inl rfl,.same (.same (.same (.drop (.same (.same (.same (.same .nil)))))))⟩;wtm_at "Mhead";wtm_at "M0"
      wtm_at "M0";wtm_at "M1";refine' aA ?a (aA (aN (aY.of ?t ?d) aH) ?_)
      case a=>wtm_at "Mqt"
      case t=>wtm_at "Mt4"
      case d=>rfl
      wtm_at "M0";refine' aE (aN (dw (aY.of ?t ?d) (dF (aY.of ?t2 n4))) ?_)
      case t=>wtm_at "Mt4"
      case d=>rfl
      case t2=>wtm_at "Mt4"
      exact aE (by wtm_at "Mcat")
    ·cases hs
   | D=>
    simp only [gw] at hs
    split at hs
    ·rename_i hw
     obtain ⟨n1,n4,n5,n6⟩:=vg hw
     split at hs
     ·rename_i h9
      cases hs
      have n7:(c8 c == "\"")=true:=n6.trans (decide_eq_true h9);refine' ⟨[some (.ref σ.length),some (.dat (.bool true)),some (.dat (.str " ")),some (.dat (.str (c8 c))),none,none,none,none],.nxt,?_,.inl rfl,.same (.same (.same (.drop (.same (.same (.same (.same .nil)))))))⟩;wtm_at "Mhead";wtm_at "M0"
      wtm_at "M0";wtm_at "M1";refine' aA ?a (aA (aN (aY.of ?t ?d) aH) ?_)
      case a=>wtm_at "Mqt"
      case t=>wtm_at "Mt4"
      case d=>rfl
      wtm_at "M1";wtm_at "M0";exact aE (by wtm_at "Mas")
     ·rename_i h9
      cases hs
      have n7:(c8 c == "\"")=false:=n6.trans (decide_eq_false h9);refine' ⟨[some (.ref σ.length),some (.dat (.bool true)),some (.dat (.str " ")),some (.dat (.str (c8 c))),none,none,none,none],.nxt,?_,.inl rfl,.same (.same (.same (.drop (.same (.same (.same (.same .nil)))))))⟩;wtm_at "Mhead";wtm_at "M0"
      wtm_at "M0";wtm_at "M1";refine' aA ?a (aA (aN (aY.of ?t ?d) aH) ?_)
      case a=>wtm_at "Mqt"
      case t=>wtm_at "Mt4"
      case d=>rfl
      wtm_at "M0";refine' aE (aN (dw (aY.of ?t ?d) (dF (aY.of ?t2 n4))) ?_)
      case t=>wtm_at "Mt4"
      case d=>rfl
      case t2=>wtm_at "Mt4"
      exact aE (by wtm_at "Mcat")
    ·cases hs
   | E=>cases hs
  case rest=>
   refine' aA (ρ₁:=[some (.ref σ.length),some (.dat (.bool q2)),some (.dat (.str " ")),none,some (.dat (.str t2)),none,none,none]) ?a (aA (σ₁:=az σ x (p+n2) st2 "") ?b (aA (ρ₁:=[some (.ref σ.length),some (.dat (.bool q2)),some (.dat (.str " ")),none,some (.dat (if !q2 && t2.length==0 then .none else .str t2)),none,none,none]) (σ₁:=az σ x (p+n2) st2 "") ?c (aA (ρ₁:=[some (.ref σ.length),some (.dat (.bool q2)),some (.dat (.str " ")),none,some (.dat (if !q2 && t2.length==0 then .none else .str t2)),none,none,none]) (σ₁:=az σ x (p+n2) st2 "") ?dd (a8 (aT ?e)))))
   case a=>wtm_at "Mqt"
   case b=>wtm_at "Mas"
   case dd=>
    refine' aN (aY.of (ai ?k1 jG (OpG.of2 zm)) ?d) aH
    case k1=>wtm_at "Me"
    case d=>rfl
   case e=>exact ec (.there (.there (.there (.there .here))))
   case c=>
    cases q2 with
    | true=>
     show aq _ _ _ _ _ _ _ [some (.ref σ.length),some (.dat (.bool true)),some (.dat (.str " ")),none,some (.dat (.str t2)),none,none,none] _
     refine' aN (dw (aY.of ?t ?d) (dF (aY.of ?t2 ?d2))) aH
     case t=>wtm_at "Mt4"
     case d=>rfl
     case t2=>wtm_at "Mt4"
     case d2=>rfl
    | false=>
     rw [show (!false && t2.length==0)=(t2 == "") by rw [uC];rfl]
     cases he:(t2 == "") with
     | true=>
      show aq _ _ _ _ _ _ _ [some (.ref σ.length),some (.dat (.bool false)),some (.dat (.str " ")),none,some (.dat .none),none,none,none] _
      refine' bL (dw (aY.of ?t ?d) (cD (aY.of ?t2 ?d2) (aY.of ?t3 he))) (aE ?as)
      case t=>wtm_at "Mt4"
      case d=>rfl
      case t2=>wtm_at "Mt4"
      case d2=>rfl
      case t3=>wtm_at "Mt4"
      case as=>wtm_at "Mqt"
     | false=>
      show aq _ _ _ _ _ _ _ [some (.ref σ.length),some (.dat (.bool false)),some (.dat (.str " ")),none,some (.dat (.str t2)),none,none,none] _
      refine' aN (dw (aY.of ?t ?d) (cD (aY.of ?t2 ?d2) (aY.of ?t3 he))) aH
      case t=>wtm_at "Mt4"
      case d=>rfl
      case t2=>wtm_at "Mt4"
      case d2=>rfl
      case t3=>wtm_at "Mt4"
end
section
variable {C:Cx} (H:bH C) {fz:List Nat} {σ:aC} {x:Str} {p:Nat} {st:LS} {cs:List Nat} {n2:Nat} {st2:LS} {t2:Str} {q2:Bool}
include H
theorem we (hfz:∀ i∈fz,i<σ.length) (hl:x.length<=100000) (hd:x.cps.toList.drop p=cs) (hs:eG cs st "" false=some (n2,st2,t2,q2)) (hq:(!q2 && t2.length==0)=false) :
  aP C 4 fz (.ref 813) [.ref σ.length] [] (az σ x p st "") (.dat (.str t2)) (az σ x (p+n2) st2 ""):=by
 have cr:=jx H hfz hl hd hs
 rw [hq] at cr
 simp only [F6,if_false] at cr
 wtm_at "Dp"
 case hr=>exact .ret
 case h=>
  dsimp only;refine' aA (aN (gk ?t1 ?x1) aH) (aA (ρ₁:=[some (.ref σ.length),none,some (.dat (.str t2)),none,none,none,none,none]) (σ₁:=az σ x (p+n2) st2 "") ?s2 (aA (aN (aY.of ?t3 ?d3) aH) (aA (dL (k:=0) (.done (aY.of ?t4 ?d4) aH)) (aA (aN (aY.of ?t5 ?d5) aH) (a8 (aT ?e))))))
  case t1=>wtm_at "Me"
  case x1=>exact i9.trans rfl
  case s2=>
   refine' aB (bC ?ho (bB iH (dY H) (fd_ H (by kernel_rfl)) (fn_ H (by kernel_rfl)) (by kernel_rfl)) (kp_ H (by kernel_rfl)) b7 cr (by show 3<=3;decide) rfl (by intro _;exact ⟨_,rfl⟩)) ?t
   case ho=>wtm_at "Me"
   case t=>wtm_at "Ma"
  case t3=>wtm_at "Mt"
  case d3=>rfl
  case t4=>wtm_at "Mt"
  case d4=>rfl
  case t5=>
   refine' ai ?k1 jG (OpG.of2 tG)
   case k1=>wtm_at "Me"
  case d5=>rfl
  case e=>wtm_at "Me"
theorem wf (hfz:∀ i∈fz,i<σ.length) (hl:x.length<=100000) (hd:x.cps.toList.drop p=cs) (hs:eG cs st "" false=some (n2,st2,t2,q2)) (hq:(!q2 && t2.length==0)=true) :
  aP C 4 fz (.ref 813) [.ref σ.length] [] (az σ x p st "") (.dat .none) (az σ x (p+n2) st2 ""):=by
 have cr:=jx H hfz hl hd hs
 rw [hq] at cr
 simp only [if_true] at cr
 wtm_at "Dp"
 case hr=>exact .ret
 case h=>
  dsimp only;refine' aA (aN (gk ?t1 ?x1) aH) (aA (ρ₁:=[some (.ref σ.length),none,some (.dat .none),none,none,none,none,none]) (σ₁:=az σ x (p+n2) st2 "") ?s2 (aA (aN (aY.of ?t3 ?d3) aH) (a8 (dL (k:=0) (.ret (aY.of ?t4 ?d4) ?b)))))
  case t1=>wtm_at "Me"
  case x1=>exact i9.trans rfl
  case s2=>
   refine' aB (bC ?ho (bB iH (dY H) (fd_ H (by kernel_rfl)) (fn_ H (by kernel_rfl)) (by kernel_rfl)) (kp_ H (by kernel_rfl)) b7 cr (by show 3<=3;decide) rfl (by intro _;exact ⟨_,rfl⟩)) ?t
   case ho=>wtm_at "Me"
   case t=>wtm_at "Ma"
  case t3=>wtm_at "Mt"
  case d3=>rfl
  case t4=>wtm_at "Mt"
  case d4=>rfl
  case b=>
   refine' aE (bL (aY.of (dS (gk ?t5 ?x5)) rfl) (a8 (aT ?e)))
   case t5=>wtm_at "Me"
   case x5=>exact i9.trans rfl
   case e=>wtm_at "Me"
end
section
open PySem.Calls
noncomputable def se (C:Cx) (m:Nat) (fz:List Nat) (f:Value) (as:List AV) (σ:aC) (X:String) (σ':aC):Prop:=
 ∀ (A:Around) (μ:Mu) (s:Shared) (vs:List Value) (R:Result->Shared->Prop),C.Ok->aX C ⟨true,m,fz⟩ A μ σ s->ay μ s.heap as vs->
  (∀ x μ' s',aX C ⟨true,m,fz⟩ A μ' σ' s'->Ext μ μ' s.heap.objs.size->aL A (WC μ) s s'->(∃ o,s'.heap.get? x=some o/\o.cls=.type X)->R (.error (.ref x)) s')->GR (model C.prog C.w) A (.call f ⟨vs,[]⟩) R s
section
variable {C:Cx} {lv:Lv} {N:aF} {ρ ρ₁ ρ₂:aO} {σ σ₁ σ₂:aC} {X:String}
theorem uc {m:Nat} {fz:List Nat} {f:Addr} {of:Obj} {fd:Hr} {body:List Stmt} {as:List AV} {bs:List (Str×AV)} (hK:C.K.lookup f=some of) (hd:of.data=.func fd) (hbody:fd.body=.stmts body) (hcd:codeIn C.K fd.code fd.qualname=true)
  (hcl:fd.closure=[]) (hg:fd.globals=Go) (hbl:fd.builtins=Hb) (hco:fd.scope.isCoroutine=false) (hgen:fd.scope.isGenerator=false) (hkd:fd.scope.kind=.function) (ok:dc fd.scope.names) (hfree:∀ p∈fd.scope.names,p.2≠.free)
  (hb:bQ C fd as [] bs) (bl:cM fd.scope.names ρ) (st:cQ fd.scope.names ρ bs ρ₁) (h:fh C ⟨true,m,fz⟩ fd.scope.names body ρ₁ σ X ρ₂ σ₂):se C (m+1) fz (.ref f) as σ X σ₂:=by
 intro A μ s vs R okC G rv hR
 have X':=G.inK okC
 have hroom:=G.room
 have hunits:=G.units
 dsimp only at hroom hunits
 refine K2 (by omega) (X' _ _ hK) hd hco hgen hbody (codeRec_of X' hcd) (hb A.in1 μ s vs [] _ _ X' G.lt rv trivial fun binds s1 k1 rb=>?_)
 have G1:aX C ⟨true,m+1,fz⟩ A μ σ s1:=G.grow k1
 have G1':aX C ⟨true,m,fz⟩ A.in1 μ σ s1:=G1.around (fun zz=>G.quiet rfl) rfl (by show A.depth+_+_<_;dsimp only;omega) (by show A.units+1+_+_<_;dsimp only;omega) ⟨G1.frs.all⟩
 refine ef fun env he=>?_
 rw [hcl,hg,hbl] at he
 have e1:env.locals=s1.heap.objs.size:=by rw [he];rfl
 have e3:env.frame=some env.locals:=by rw [he];rfl
 have e4:env.scope.kind=.function:=by rw [he];exact hkd
 have e2:env.cells=GV (s1.heap.objs.size+1) fd.scope.names []:=by rw [he];rfl
 have' hkn:∀ p∈fd.scope.names,env.kindOf p.1=some p.2:=by
  intro p hp
  rw [he]
  show fd.scope.names.lookup p.1=some p.2
  have nd:=ok.nodup;clear he e1 e2 st bl h hb hcl hg hbl hfree;generalize fd.scope.names=l at hp nd
  induction l with
  | nil=>cases hp
  | cons q l ih=>
   obtain ⟨y,ky⟩:=q
   rw [E9,GI] at nd
   rw [GU]
   rcases EV.mp hp with rfl | hp
   ·simp
   ·have:(p.1==y)=false:=by
     refine beq_eq_false_iff_ne.mpr fun q=>nd.1 (EO.mpr ⟨p,hp,q⟩)
    rw [this]
    exact ih hp nd.2
 have' hfe:∃ L,env.frame=some L/\FA (A.deeper env) L:=by
  obtain ⟨l,e,_⟩:=G.frs.all;exact ⟨_,e3,env :: l,by show A.frames.map _=_;rw [e];rfl,env,.head _,e3⟩
 obtain ⟨G2,F2,x2,k2⟩:=je (A':=A.deeper env) (cls := "frame") (env':=env) G1' ok (.nil hfree) bl e1 e2 (by rw [he];rfl) (by rw [he];rfl) (by rw [he];exact hkd) (fun p hp=>.inl (hkn p hp)) hfe
 have' rb2:dE (μ.hide (dA s1.heap.objs.size fd.scope.names)) (bY s1.heap "frame" fd.scope.names) bs binds:=rb.mono x2 k2 noW
 have G3:aX C ⟨true,m,fz⟩ (A.deeper env) (μ.hide (dA s1.heap.objs.size fd.scope.names)) σ {s1 with heap:=bY s1.heap "frame" fd.scope.names}:=G2.around (fun zz=>G.quiet rfl) rfl (by show A.depth+1+_+_<_;dsimp only;omega) (by show A.units+3+_+_<_;dsimp only;omega) (Frs.deeper (A:=A) ⟨G2.frs.all⟩ F2 e3 e4)
 refine ED (mR st G3 F2 rb2 fun s3 P3=>EI ⟨okC.lim.keeps P3.good.base,codeAny_func ?_⟩)
 refine h (A.deeper env) env _ s3 _ _ okC P3.good P3.fr fun x μ4 s4 P4 r4=>?_
 refine ED (AX P4 r4 fun L μ5 s5 hf P5 N5=>nH (f:=none) P5 N5 fun s6 P6 N6=>?_)
 have' kept:aL A (WC μ) s s6:=by
  have' a1:aL A (WC μ) s s1:=k1.lift;have' a2:aL A (WC μ) s {s1 with heap:=bY s1.heap "frame" fd.scope.names}:=a1.trans (k2.lift (W:=NoW)) fun zz h=>h.elim
  have w:∀ b,WS (μ.hide (dA s1.heap.objs.size fd.scope.names)) fd.scope.names env b->WC μ b\/s.heap.objs.size<=b:=fun b hb=>(nw G1 ok.nodup e1 e2 hb).imp id fun q=>EH k1.le q
  have' k4:aL A (WS (μ.hide (dA s1.heap.objs.size fd.scope.names)) fd.scope.names env) s3 s6:=P6.kept.frames fun b hb=>(FA.deeper e3 hb).imp id fun q=>.inl (.inr (.inl q))
  exact (a2.trans (P3.kept.frames (A':=A) fun b hb=>(FA.deeper e3 hb).imp id fun q=>.inl (.inr (.inl q))) w).trans k4 w
 have G4:aX C ⟨true,m+1,fz⟩ A μ5 σ₂ s6:=P6.good.around G.quiet rfl G.room G.units (P6.good.frs.outer (let ⟨l,e,_⟩:=G.frs.all;⟨l,e⟩))
 have x4:Ext μ μ5 s.heap.objs.size:=(x2.trans (P3.ext.trans P6.ext P3.kept.le) k2.le).trans (Ext.refl _ _) (EK _) |> fun x=>⟨let ⟨t,e,f⟩:=x.grow;⟨t,e,fun p hp b hb=>EH k1.le (f p hp b hb)⟩,x.sub,fun b hb=>(x.new b hb).imp id fun q=>EH k1.le q⟩
 obtain ⟨vs',T',ts,a,_⟩:=N6
 obtain ⟨oe,h1,h2,_⟩:=a.rc
 exact hR x μ5 s6 G4 x4 kept ⟨oe,h1,h2⟩
theorem r7 {x:Str} {np pos:Pos} (g:bx N x) (hm:C.mg x=none) (hv:C.mb x=some (.type "StopIteration")) (hq:autoParam (lv.q=true) aR):iP C lv N (.Raise (some (.Name x np)) none pos) ρ σ "StopIteration" ρ σ:=by
 intro A env μ s Q E ok G F hE
 have' hp:=F.plain _ g.mem
 refine ao (owsi_raiseC (G.quiet hq) (Hq F.fn (F.globKind g) (Jq (F.glob▸ok.g.keeps G.base) hm (F.blt▸ok.b.keeps G.base) hv ⟨rfl,rfl⟩) hp.1) fun h' e hx hl=>?_)
 obtain ⟨P,f⟩:=nY (tk:=s.toks) G F hx.newExc hl
 exact hE e μ _ P f
end
end
section
open PySem.Calls
section
variable {C:Cx} {m:Nat} {fz:List Nat} {A:Around} {μ:Mu} {σ σ':aC} {s:Shared} {i:Nat} {c:Addr} {xs:List (Str×AV)} {v:Value} {f:Addr} {a:AV} {E:Value->Shared->Prop}
theorem Bh {Q:Option Value->Shared->Prop} (ok:C.Ok) (G:aX C ⟨true,m,fz⟩ A μ σ s) (hx:σ[i]? = some (.inst c xs)) (r:af μ s.heap (.ref i) v) (hf:findIn C.K (.ref c) "__next__" = some (some (.ref f))) (ht:typeIn C.K (.ref f)=some (.type "function")) (hc:aP C m fz (.ref f) [.ref i] [] σ a σ')
  (hQ:∀ u μ' s',aX C ⟨true,m,fz⟩ A μ' σ' s'->Ext μ μ' s.heap.objs.size->aL A (WC μ) s s'->af μ' s'.heap a u->Q (some u) s'):wpAny (model C.prog C.w) A (pyNext v) Q E s:=by
 obtain ⟨q,dx,es,n,rfl,hq,e,ne,hd,hr,I⟩:=G.sim.inst hx r
 unfold pyNext
 exact ED (wpAny_attempt (special_fn (G.inK ok) I hf ht (Fi (hc A μ s [.ref q.1] [] _ ok G ⟨r,trivial⟩ trivial fun u μ' s' G' x k ru=>EI (hQ u μ' s' G' x k ru)))))
theorem Ac {Q:Option Value->Shared->Prop} (ok:C.Ok) (G:aX C ⟨true,m,fz⟩ A μ σ s) (hx:σ[i]? = some (.inst c xs)) (r:af μ s.heap (.ref i) v) (hf:findIn C.K (.ref c) "__next__" = some (some (.ref f))) (ht:typeIn C.K (.ref f)=some (.type "function")) (hc:se C m fz (.ref f) [.ref i] σ "StopIteration" σ')
  (hQ:∀ μ' s',aX C ⟨true,m,fz⟩ A μ' σ' s'->Ext μ μ' s.heap.objs.size->aL A (WC μ) s s'->Q none s'):wpAny (model C.prog C.w) A (pyNext v) Q E s:=by
 obtain ⟨q,dx,es,n,rfl,hq,e,ne,hd,hr,I⟩:=G.sim.inst hx r
 unfold pyNext
 refine ED (wpAny_attempt (special_fn (G.inK ok) I hf ht (Fi (hc A μ s [.ref q.1] _ ok G ⟨r,trivial⟩ fun x μ' s' G' ex k ho=>?_))))
 obtain ⟨o,ho,hcls⟩:=ho
 have L:Looks (model C.prog C.w) s'.heap (IL (.ref x) (.type "StopIteration")) true:=((I7 ho).andThen (by rw [hcls];exact .now)).andThen (Fd owsi_facts.sub)
 exact ED (L.here (EI (hQ μ' s' G' ex k)))
theorem zX {Q:Value->Shared->Prop} {f1:Addr} (ok:C.Ok) (G:aX C ⟨true,m,fz⟩ A μ σ s) (hx:σ[i]? = some (.inst c xs)) (r:af μ s.heap (.ref i) v) (hf:findIn C.K (.ref c) "__iter__" = some (some (.ref f))) (ht:typeIn C.K (.ref f)=some (.type "function")) (hn:findIn C.K (.ref c) "__next__" = some (some (.ref f1))) (hc:aP C m fz (.ref f) [.ref i] [] σ (.ref i) σ)
  (hQ:∀ μ' s',aX C ⟨true,m,fz⟩ A μ' σ s'->Ext μ μ' s.heap.objs.size->aL A (WC μ) s s'->Q v s'):wpAny (model C.prog C.w) A (pyIter v) Q E s:=by
 obtain ⟨q,dx,es,n,rfl,hq,e,ne,hd,hr,I⟩:=G.sim.inst hx r
 have X:=G.inK ok
 have L:Looks (model C.prog C.w) s.heap (Gk (.ref q.1) "__iter__") (some (.ref f)):=I.type.andThen (IA X hf)
 unfold pyIter
 refine ED (L.here ?_)
 dsimp only
 unfold callSpecialIfBoundUnlessNone? bindSpecialIfBound?
 have B:∀ E,wpAny (model C.prog C.w) A (bindSpecial (.ref f) (.ref q.1) >>= fun r=>pure (some r)) (fun r s'=>r=some (Fj f,[Fj q.1])/\s'=s) E s:=fun E=>ED ((bind_fn X _ ht).here (EI ⟨rfl,rfl⟩))
 refine ED (E1 (ED (ED (L.here (ED (Ik (Es (Q:=fun r s'=>r=some (Fj f,[Fj q.1])/\s'=s) (E:=E) ?_ (fun r s' z=>?_) fun zz zz z=>z)))))))
 ·dsimp only
  split
  ·exact B _
  ·exact wpAny_tryCatch (B _)
 ·obtain ⟨rfl,rfl⟩:=z
  refine ED (Fi (hc A μ s' [.ref q.1] [] _ ok G ⟨r,trivial⟩ trivial fun u μ' s2 G' x k ru=>EI ?_))
  obtain ⟨q',hq',rfl⟩:=ru;obtain rfl:q'=q:=by rw [x.get hq] at hq';cases hq';rfl
  have' L2:Looks (model C.prog C.w) s2.heap (Gk (.ref q'.1) "__next__") (some (.ref f1)):=by
   obtain ⟨q2,_,_,_,e2,hq2,_,_,_,_,I2⟩:=G'.sim.inst hx (v:=.ref q'.1) ⟨q',hq',rfl⟩
   rw [hq'] at hq2;cases hq2
   exact I2.type.andThen (IA (G'.inK ok) hn)
  exact ED (L2.here (EI (hQ μ' s2 G' x k)))
end
end
section
open PySem.Calls
section
variable {C:Cx} {m:Nat} {fz:List Nat} {A:Around} {μ0 μ μ':Mu} {σ σ':aC} {s0 s s':Shared} {S:Addr} {as:List AV} {a:AV} {E:Value->Shared->Prop}
structure mA (C:Cx) (m:Nat) (fz:List Nat) (A:Around) (μ0:Mu) (s0:Shared) (S:Addr) (σ:aC) (as:List AV) (μ:Mu) (s:Shared):Prop where
 good:aX C ⟨true,m,fz⟩ A μ σ s
 ext:Ext μ0 μ s0.heap.objs.size
 kept:aL A (fun b=>WC μ0 b\/b=S) s0 s
 hid:S∈μ.hid
 foot:S∉μ.foot
 ne:¬ FA A S
 there:S<s0.heap.objs.size
 z0:μ0.fz=fz
 list:∃ acc c,s.heap.get? S=some (dq acc c)/\ay μ s.heap as acc.toList
theorem mA.call (L:mA C m fz A μ0 s0 S σ as μ s) (G:aX C ⟨true,m,fz⟩ A μ' σ' s') (x:Ext μ μ' s.heap.objs.size) (k:aL A (WC μ) s s'):mA C m fz A μ0 s0 S σ' as μ' s':=by
 obtain ⟨acc,c,hS,r⟩:=L.list
 have' hlt:=Ed hS
 refine ⟨G,L.ext.trans x L.kept.le,L.kept.trans k fun b hb=>?_,x.sub _ L.hid,fun q=>(x.foot _ q).elim L.foot fun z=>absurd hlt (E3.mpr z),L.ne,L.there,L.z0,acc,c,k.at (fun q=>L.foot (WC.foot q)) L.ne hS,ay.mono x k (L.good.fw fun b hb=>.inl (L.good.sim.foot b (WC.foot hb))) r⟩
 exact (WC.ext L.ext (L.good.frz.trans L.z0.symm) hb).imp .inl id
theorem mA.turn {acc:Array Value} {c c':Nat} (L:mA C m fz A μ0 s0 S σ as μ s) {f:Obj->Obj} {acc':Array Value} {as':List AV} (hf:f (dq acc c)=dq acc' c') (hS:s.heap.get? S=some (dq acc c)) (h:ay μ s.heap as' acc'.toList):mA C m fz A μ0 s0 S σ as' μ {s with heap:=s.heap.update S f}:=by
 have g:(s.heap.update S f).get? S=some (dq acc' c'):=by rw [<- hf];exact FU _ hS (by rw [hf];rfl)
 have k:aL A (· = S) s {s with heap:=s.heap.update S f}:=⟨_,_,_,rfl,⟨Ec (Gj ..).symm,id⟩,fun b o hb e=>.inl ((GM _ _ (Ne.symm hb)).trans e)⟩
 refine ⟨L.good.turn k (fun b hb=>hb▸L.hid) (fun b hb=>hb▸L.foot) fun b hb hw=>absurd (hw▸hb) L.ne,L.ext,L.kept.trans k fun b hb=>.inl (.inr hb),L.hid,L.foot,L.ne,L.there,L.z0,acc',c',g,ay.mono (Ext.refl _ _) k (L.good.fw fun b hb=>.inl (hb▸L.hid)) h⟩
theorem uB {μ:Mu} {h:Heap} {as:List AV} {vs:List Value} {a:AV} {v:Value} (r:ay μ h as vs) (q:af μ h a v):ay μ h (as++[a]) (vs++[v]):=ay.ind r ⟨q,trivial⟩ fun zz zz zz zz hv zz ih=>⟨hv,ih⟩
end
section
variable {C:Cx} {lv:Lv} {m i:Nat} {c:Addr} {fN fI:Addr} {τ:Nat->aC} {σ':aC} {ts:List AV} {xs:Nat->List (Str×AV)}
theorem uF (hm:m<lv.n) (hq:lv.q=true) (hx:∀ j,j<=ts.length->(τ j)[i]? = some (.inst c (xs j))) (h1:findIn C.K (.ref c) "__iter__" = some (some (.ref fI))) (h2:typeIn C.K (.ref fI)=some (.type "function")) (h3:findIn C.K (.ref c) "__next__" = some (some (.ref fN))) (h4:typeIn C.K (.ref fN)=some (.type "function"))
  (h5:findIn C.K (.ref c) "__len__" = some none) (h6:findIn C.K (.ref c) "__length_hint__" = some none) (hI:aP C m lv.fz (.ref fI) [.ref i] [] (τ 0) (.ref i) (τ 0)) (hN:∀ (j:Nat) a,ts[j]? = some a->aP C m lv.fz (.ref fN) [.ref i] [] (τ j) a (τ (j+1)))
  (hE:se C m lv.fz (.ref fN) [.ref i] (τ ts.length) "StopIteration" σ') (hz:ts.length<=1000):dQ C lv (τ 0) (.type "list") [.ref i] (.ref σ'.length) (σ'++[.list ts]):=by
 intro N ρ A env μ s vs Q E ok G F r hQ
 obtain ⟨v,rfl,ru⟩:=r.e1
 obtain ⟨q,dx,es,n,rfl,hq0,e0,ne0,hd0,hr0,I0⟩:=G.sim.inst (hx 0 (En _)) ru
 have hS:(s.heap.push {cls:=.type "list",data:=.seq #[]}).get? s.heap.objs.size=some (dq #[] 0):=ES _ rfl
 have k0:aL A0 NoW s {s with heap:=s.heap.push {cls:=.type "list",data:=.seq #[]}}:=bD _ _
 have hb:∀ b∈[s.heap.objs.size],s.heap.objs.size<=b/\b<(s.heap.push {cls:=.type "list",data:=.seq #[]}).objs.size:=fun b hb=>by rw [EJ.mp hb];exact ⟨EK _,Ed hS⟩
 have G1:=(G.around (lv':=⟨true,m,lv.fz⟩) (A':=A.in1.in1) (fun zz=>G.quiet hq) rfl (by have:=G.room;show A.depth+_+_<_;dsimp only;omega) (by have:=G.units;show A.units+1+1+_+_<_;dsimp only;omega) ⟨G.frs.all⟩).hide k0 hb
 have x1:Ext μ (μ.hide [s.heap.objs.size]) s.heap.objs.size:=fW fun b h=>(hb b h).1
 refine callType_codes (Q₁:=fun obj s₁=>obj=.ref s.heap.objs.size/\s₁={s with heap:=s.heap.push {cls:=.type "list",data:=.seq #[]}}) PySem.F.called_list (PySem.F.typeCall_list_1 _) PySem.F.entry_list_init (code_list_new _ ⟨rfl,rfl⟩) fun obj s₁ h₁=>?_
 obtain ⟨rfl,rfl⟩:=h₁
 refine ⟨⟨_,hS,rfl⟩,PySem.F.args_list_init_2 _ _,?_⟩
 have' hfoot:s.heap.objs.size∉(μ.hide [s.heap.objs.size]).foot:=fun h=>absurd (G.lt _ (G.sim.foot _ h)) (E5 _)
 have' hne:¬ FA A.in1.in1 s.heap.objs.size:=fun h=>absurd (G.lt _ (G.frs.fa (A:=A) h).1) (E5 _)
 have L0:mA C m lv.fz A.in1.in1 (μ.hide [s.heap.objs.size]) {s with heap:=s.heap.push {cls:=.type "list",data:=.seq #[]}} s.heap.objs.size (τ 0) [] (μ.hide [s.heap.objs.size]) {s with heap:=s.heap.push {cls:=.type "list",data:=.seq #[]}}:=
  ⟨G1,Ext.refl _ _,aL.refl _ _ _,.head _,hfoot,hne,Ed hS,G.frz,#[],0,hS,trivial⟩
 generalize hs1:({s with heap:=s.heap.push {cls:=.type "list",data:=.seq #[]}}:Shared)=s1 at *
 generalize hμ1:μ.hide [s.heap.objs.size]=μ1 at *
 have hqS:s.heap.objs.size≠q.1:=fun h=>absurd (Ed I0.at_) (by rw [<- h];exact E5 _)
 have hq1:μ1.objs[i]? = some q:=x1.get hq0
 obtain ⟨acc0,c0,hS1,hr1⟩:=L0.list
 obtain rfl:acc0 = #[]:=by rw [<- KH];exact GQ (bP hr1)
 show wpAny _ A.in1.in1 (do let old <- Ep.List.listItems (.ref s.heap.objs.size);Ep.List.listUpdate (.ref s.heap.objs.size) (fun zz=>#[]);letGo old.toList.reverse;Ep.List.listExtendWith (.ref s.heap.objs.size) (.ref q.1) .none) _ _ s1
 refine ED ?_
 unfold Ep.List.listItems
 refine ED (Kc hS1 rfl (EI ?_))
 show wpAny _ A.in1.in1 (KE s.heap.objs.size (fun zz=>#[]) >>= fun zz=>letGo (#[]:Array Value).toList.reverse >>= fun zz=>Ep.List.listExtendWith (.ref s.heap.objs.size) (.ref q.1) .none) _ _ s1
 refine ED (Hi hS1 rfl (ED (wpAny_letGo ?_)))
 have L1:=L0.turn (f:=FB fun zz=>#[]) (acc':=#[]) (as':=[]) rfl hS1 trivial
 generalize hs2:({s1 with heap:=s1.heap.update s.heap.objs.size (FB fun zz=>#[])}:Shared)=s2 at *
 unfold Ep.List.listExtendWith
 have r1:af μ1 s2.heap (.ref i) (.ref q.1):=⟨q,hq1,rfl⟩
 obtain ⟨q',_,_,_,eq',hq',_,_,_,_,I1⟩:=L1.good.sim.inst (hx 0 (En _)) r1
 rw [hq1] at hq';cases hq'
 refine ED (I1.type.here ?_)
 have e1:Ep.List.listSameRef (.ref s.heap.objs.size) (.ref q.1)=false:=by simp [Ep.List.listSameRef,hqS]
 have e2:(Fj c==Fa "list")=false:=rfl
 have e3:(Fj c==Fa "tuple")=false:=rfl
 simp only [e1,e2,e3,LB,F6,if_false]
 refine ED (zX ok L1.good (hx 0 (En _)) r1 h1 h2 h3 hI fun μ3 s3 G3 x3 k3=>?_)
 have L3:=L1.call G3 x3 k3
 have hq3:=x3.get hq1
 obtain ⟨q',_,_,_,eq',hq',_,_,_,_,I3⟩:=L3.good.sim.inst (hx 0 (En _)) (v:=.ref q.1) ⟨q,hq3,rfl⟩
 rw [hq3] at hq';cases hq'
 have X3:=L3.good.inK ok
 have' l1:Looks (model C.prog C.w) s3.heap (Gk (.ref q.1) "__len__") none:=I3.type.andThen (IA X3 h5)
 have' l2:Looks (model C.prog C.w) s3.heap (Gk (.ref q.1) "__length_hint__") none:=I3.type.andThen (IA X3 h6)
 refine ED (E1 ?_)
 unfold Ep.List.listLengthHint
 refine ED (l1.here ?_)
 show wpAny _ A.in1.in1 (Gk (Fj q.1) (EE "__length_hint__") >>= _) _ _ _
 refine ED (l2.here (EI ?_))
 show wpAny _ A.in1.in1 (rule "list.extend.makes-room" >>= fun zz=>Ep.List.listTouch (.ref s.heap.objs.size) >>= fun zz=>
  again (.builtin "list.extend.loop" ⟨[.ref s.heap.objs.size,.ref q.1,.none],[]⟩)) _ _ _
 obtain ⟨acc3,c3,hS3,hr3⟩:=L3.list
 obtain rfl:acc3 = #[]:=by rw [<- KH];exact GQ (bP hr3)
 refine ED (IK (ED ?_))
 show wpAny _ A.in1.in1 (KE s.heap.objs.size (·.push .none) >>= fun zz=>KE s.heap.objs.size (·.pop)) _ _ _
 refine ED (Hi hS3 rfl ?_)
 have hS4:=FU (FB (·.push FE)) hS3 rfl
 refine Hi hS4 rfl ?_
 have' L4:=(L3.turn (f:=FB (·.push FE)) (acc':=#[.none]) (as':=[.dat .none]) rfl hS3 ⟨⟨[],.none⟩,trivial⟩).turn (f:=FB (·.pop)) (acc:=#[.none]) (acc':=#[]) (as':=[]) rfl hS4 trivial
 refine EI ⟨Hk PySem.F.plain_extend_loop _,kc (n:=ts.length) (Inv:=fun j s'=>∃ μ',mA C m lv.fz A.in1.in1 μ1 s1 s.heap.objs.size (τ j) (ts.take j) μ' s'/\μ'.objs[i]? = some q)
  (Mid:=fun j v s'=>∃ μ' a,ts[j]? = some a/\mA C m lv.fz A.in1.in1 μ1 s1 s.heap.objs.size (τ (j+1)) (ts.take j) μ' s'/\af μ' s'.heap a v/\μ'.objs[i]? = some q) (Fin:=fun s'=>∃ μ',mA C m lv.fz A.in1.in1 μ1 s1 s.heap.objs.size σ' ts μ' s')
  ?hs ?hitem ?hmid ?hdone ?hfin ts.length 0 _ rfl (En _) ⟨μ3,L4,hq3⟩⟩
 case hs=>
  rintro j v s' ⟨μ',a,_,L,_,_⟩
  obtain ⟨acc,c',hS',hr'⟩:=L.list;have:=bP hr'
  rw [Im] at this
  exact ⟨acc,c',hS',by rw [<- FQ];omega⟩
 case hitem=>
  rintro j s' Q' E' hj ⟨μ',L,hq'⟩ hQ'
  exact Bh ok L.good (hx j (El hj)) ⟨q,hq',rfl⟩ h3 h4 (hN j _ (Eb hj)) fun u μ2 s2 G2 x2 k2 ru=>hQ' u s2 ⟨μ2,_,Eb hj,L.call G2 x2 k2,ru,x2.get hq'⟩
 case hmid=>
  rintro j v s' ⟨μ',a,ha,L,rv,hq'⟩
  obtain ⟨acc,c',hS',hr'⟩:=L.list;refine ⟨μ',L.turn (acc':=acc.push v) rfl hS' ?_,hq'⟩
  rw [Jp,ha,Jg]
  exact uB hr' rv
 case hdone=>
  rintro s' Q' E' ⟨μ',L,hq'⟩ hQ'
  refine Ac ok L.good (hx _ (EK _)) ⟨q,hq',rfl⟩ h3 h4 hE fun μ2 s2 G2 x2 k2=>hQ' s2 ⟨μ2,?_⟩
  have:=L.call G2 x2 k2
  rwa [List.take_length] at this
 case hfin=>
  rintro s' ⟨μ',L⟩
  obtain ⟨acc,c',hS',hr'⟩:=L.list;have y:Ext μ' {μ' with objs:=μ'.objs++[(s.heap.objs.size,[s.heap.objs.size])]} s.heap.objs.size:=⟨⟨_,rfl,fun p hp b hb=>by rw [EJ.mp hp] at hb;rw [EJ.mp hb];exact EK _⟩,fun zz h=>h,fun zz h=>.inl h⟩
  have GA:=L.good.adopt (ob:=.list ts) L.hid L.foot L.ne ⟨rfl,acc,⟨c',hS'⟩,ay.move ⟨fun zz zz e=>y.get e,fun r=>r⟩ hr'⟩
  have' hlen:=L.good.sim.len;generalize hμ2:({μ' with objs:=μ'.objs++[(s.heap.objs.size,[s.heap.objs.size])]}:Mu)=μ2 at *
  refine ⟨rfl,hQ _ μ2 s' (aS.call rfl G F (GA.around (lv':=⟨true,m,lv.fz⟩) (fun zz=>G.quiet hq) rfl (by have:=G.room;dsimp only;omega) (by have:=G.units;dsimp only;omega) ⟨GA.frs.all⟩) ?_ ?_) ⟨(s.heap.objs.size,[s.heap.objs.size]),?_,rfl⟩⟩
  ·exact (x1.trans L.ext k0.le).trans y (EK _)
  ·refine (k0.lift (A:=A) (W:=WC μ)).trans (L.kept.frames fun b hb=>.inl hb) fun b hb=>?_
   rcases hb with q | rfl
   ·exact WC.ext x1 (by rw [<- hμ1];rfl) q
   ·exact .inr (EK _)
  ·rw [<- hμ2]
   show (μ'.objs++[_])[σ'.length]? = _
   rw [<- hlen];exact EY
end
end
section
variable {C:Cx} {lv:Lv} {N:aF} {ρ ρ₁ ρ₂:aO} {σ σ₁ σ₂:aC} {X:String}
theorem ul {t:Expr} {x y:List Stmt} {pos:Pos} (h:aY C lv N t ρ σ true ρ₁ σ₁) (hx:fh C lv N x ρ₁ σ₁ X ρ₂ σ₂):iP C lv N (.If t x y pos) ρ σ X ρ₂ σ₂:=fun A env μ s Q E ok G F hE=>
 wpAny_If (h A env μ s _ _ ok G F fun μ1 s1 P1=>hx A env μ1 s1 _ _ ok P1.good P1.fr (hE.behind G F P1))
end
section
variable {C:Cx} (H:bH C) {fz:List Nat} {σ:aC} {x:Str} {p:Nat} {st:LS} {cs:List Nat} {n2:Nat} {st2:LS} {t2:Str} {q2:Bool}
include H
theorem ux:aP C 1 fz (.ref 842) [.ref σ.length] [] (az σ x p st "") (.ref σ.length) (az σ x p st ""):=by
 wtm_at "Dp"
 case hr=>exact .ret
 case h=>
  dsimp only;refine' a8 (aT ?e)
  case e=>wtm_at "Me"
theorem vQ (hfz:∀ i∈fz,i<σ.length) (hl:x.length<=100000) (hd:x.cps.toList.drop p=cs) (hs:eG cs st "" false=some (n2,st2,t2,q2)) (hq:(!q2 && t2.length==0)=false) :
  aP C 5 fz (.ref 849) [.ref σ.length] [] (az σ x p st "") (.dat (.str t2)) (az σ x (p+n2) st2 ""):=by
 wtm_at "Dp"
 case hr=>exact .ret
 case h=>
  dsimp only;refine' aA (ρ₁:=[some (.ref σ.length),some (.dat (.str t2)),none]) (σ₁:=az σ x (p+n2) st2 "") ?s1 (aA (aN (aY.of ?t ?d) aH) (a8 (aT ?e)))
  case s1=>
   refine' aB (bC ?ho (bB iH (dY H) (fd_ H (by kernel_rfl)) (fn_ H (by kernel_rfl)) (by kernel_rfl)) (kp_ H (by kernel_rfl)) b7 (we H hfz hl hd hs hq) (by show 4<=4;decide) rfl (by intro _;exact ⟨_,rfl⟩)) ?ta
   case ho=>wtm_at "Me"
   case ta=>wtm_at "Ma"
  case t=>wtm_at "Mt"
  case d=>rfl
  case e=>wtm_at "Me"
theorem ua (hfz:∀ i∈fz,i<σ.length) (hl:x.length<=100000) (hd:x.cps.toList.drop p=cs) (hs:eG cs st "" false=some (n2,st2,t2,q2)) (hq:(!q2 && t2.length==0)=true) :
  se C 5 fz (.ref 849) [.ref σ.length] (az σ x p st "") "StopIteration" (az σ x (p+n2) st2 ""):=by
 refine' uc (bH.look H rfl) rfl rfl ?hcd rfl rfl rfl rfl rfl rfl ?hok ?hfree ?hb ?bl ?st ?h
 case hcd=>exact bH.code H (by kernel_rfl)
 case hok=>wtm_at "Mnames"
 case hfree=>decide
 case hb=>(refine' bQ.args ?_;wtm_at "Mpeek")
 case bl=>wtm_at "Mblank"
 case st=>(simp only [E9,Ic,F8,FX,Fp];wtm_at "Mstall")
 case h=>
  dsimp only;refine' rU (ρ₁:=[some (.ref σ.length),some (.dat .none),none]) (σ₁:=az σ x (p+n2) st2 "") ?s1 (eh (ul (aY.of ?t ?d) (eh ?st)))
  case s1=>
   refine' aB (bC ?ho (bB iH (dY H) (fd_ H (by kernel_rfl)) (fn_ H (by kernel_rfl)) (by kernel_rfl)) (kp_ H (by kernel_rfl)) b7 (wf H hfz hl hd hs hq) (by show 4<=4;decide) rfl (by intro _;exact ⟨_,rfl⟩)) ?ta
   case ho=>wtm_at "Me"
   case ta=>wtm_at "Ma"
  case t=>wtm_at "Mt"
  case d=>rfl
  case st=>
   refine' r7 ?g (gJ H) (gL H)
   case g=>wtm_at "Mglob"
end
theorem aP.up {C:Cx} {m m':Nat} {fz:List Nat} {f:Value} {as:List AV} {ks:List (Str×AV)} {σ σ':aC} {a:AV} (h:aP C m fz f as ks σ a σ') (hm:m<=m'):aP C m' fz f as ks σ a σ':=fun A μ s vs kvs R ok G rv rk hR=>
 h A μ s vs kvs R ok (G.around (fun zz=>G.quiet rfl) rfl (by have:=G.room;dsimp only at this ⊢;omega) (by have:=G.units;dsimp only at this ⊢;omega) G.frs) rv rk fun v μ' s' G' x k r=>hR v μ' s' (G'.around (fun zz=>G.quiet rfl) rfl G.room G.units G'.frs) x k r
section
variable {C:Cx} (H:bH C) {fz:List Nat} {σ:aC} {x:Str}
include H
theorem yh (hfz:∀ i∈fz,i<σ.length) (hl:x.length<=100000):aP C 5 fz (.ref 852) [.dat (.str x)] [("posix",.dat (.bool true))] σ (.ref σ.length) (σ++[.inst 852 (oW (σ.length+1) (σ.length+2) (σ.length+3) "#" false (.str " ") ""),.inst 717 (eR x 0),.raw bc,.raw bc]):=
 j7 (BO H) (B0 H) (fn_ H (by kernel_rfl)) .inst (ub H hfz hl)
theorem mz {ws:List Str} {k:Nat} (hfz:∀ i∈fz,i<σ.length) (hl:x.length<=100000) (hw:toks k x.cps.toList .S=some ws) (hz:ws.length<=1000) :
  aP C 7 fz (.ref 864) [.dat (.str x)] [] σ (.dat (.list (ws.map .str))) σ:=by
 have hz0:σ.length∉fz:=fun h=>absurd (hfz _ h) (E5 _)
 have ta:=oF k x.cps.toList .S ws hw
 obtain ⟨nE,stE,wE,qE,hE1,hE2⟩:=(ta ws.length).2 rfl
 have' gl:dQ C ⟨true,6,fz⟩ (az σ x 0 .S "") (.type "list") [.ref σ.length] (.ref (az σ x ((dP ws.length x.cps.toList .S).1+nE) stE "").length) (az σ x ((dP ws.length x.cps.toList .S).1+nE) stE "" ++ [.list ((ws.map F4).map .dat)]):=by
  refine uF (τ:=fun j=>az σ x (dP j x.cps.toList .S).1 (dP j x.cps.toList .S).2 "") (i:=σ.length) (m:=5) (c:=852) (fN:=849) (fI:=842) (xs:=fun j=>oW (σ.length+1) (σ.length+2) (σ.length+3) "" true (dP j x.cps.toList .S).2.str "")
   (by show 5<6;decide) rfl (fun j zz=>iH) (fd_ H (by kernel_rfl)) (fn_ H (by kernel_rfl)) (fd_ H (by kernel_rfl)) (fn_ H (by kernel_rfl)) (fd_ H (by kernel_rfl)) (fd_ H (by kernel_rfl)) ((ux H).up (by decide)) ?_ ?_ (by simpa using hz)
  ·intro j a ha
   obtain ⟨d,hd,rfl⟩:=kP ha
   rw [Em] at hd
   obtain ⟨w,hw',rfl⟩:=FP.mp hd;obtain ⟨n,st',q,h1,h2,h3⟩:=(ta j).1 w hw';dsimp only
   rw [h3]
   exact vQ H hfz hl rfl h1 h2
  ·rw [EF,EF]
   exact ua H hfz hl rfl hE1 hE2
 have key:aP C 7 fz (.ref 864) [.dat (.str x)] [] σ (.ref (az σ x ((dP ws.length x.cps.toList .S).1+nE) stE "").length) (az σ x ((dP ws.length x.cps.toList .S).1+nE) stE "" ++ [.list ((ws.map F4).map .dat)]):=by
  wtm_at "De"
  case hb=>
   refine' bQ.plain ["s"] [("comments",.bool false),("posix",.bool true)] [("comments",.dat (.bool false)),("posix",.dat (.bool true))] ?_ (fun zz zz=>⟨⟨rfl,[],.bool _⟩,⟨rfl,[],.bool _⟩,trivial⟩)
   intro vs hl S
   (rcases vs with _ | ⟨v1,_ | ⟨v2,vs⟩⟩)<;>first | (cases hl;done) | (rw [bH.K (by assumption)];kernel_rfl)
  case bl=>wtm_at "Mblank"
  case st=>(simp only [F8,FX,Fp,Eo,EZ];wtm_at "Mstall")
  case hr=>exact .ret
  case h=>
   dsimp only;refine' aA (aN (aY.of ?t1 ?d1) aH) (aA (ρ₁:=[some (.dat (.str x)),some (.dat (.bool false)),some (.dat (.bool true)),some (.ref σ.length),none,none,none]) ?s2 (aA (σ₁:=σ++[.inst 852 (oW (σ.length+1) (σ.length+2) (σ.length+3) "#" true (.str " ") ""),.inst 717 (eR x 0),.raw bc,.raw bc]) ?s3 (aA (σ₁:=az σ x 0 .S "") (bL (aY.of ?t4 ?d4) (aE ?s4)) (a8 (aT ?s5)))))
   case t1=>wtm_at "Mt"
   case d1=>rfl
   case s2=>
    refine' aB (ah ?f (kp_ H (by kernel_rfl)) (zF ?x0 ?x1) (yh H hfz hl) (by show 5<=6;decide) rfl (by intro _;with_unfolding_all rfl)) ?ta
    case f=>wtm_at "Me"
    case x0=>wtm_at "Me"
    case x1=>wtm_at "Me"
    case ta=>wtm_at "Ma"
   case s3=>
    refine' aq.st (aB ?v (b8 ?o ?ss)) ?he
    case v=>wtm_at "Me"
    case o=>wtm_at "Me"
    case ss=>exact bj iH hz0 (dY H) (fd_ H (by kernel_rfl)) (EW (by kernel_rfl))
    case he=>rw [fQ];kernel_rfl
   case t4=>wtm_at "Mt"
   case d4=>rfl
   case s4=>
    refine' aq.st (aB ?v (b8 ?o ?ss)) ?he
    case v=>wtm_at "Me"
    case o=>wtm_at "Me"
    case ss=>exact bj iH hz0 (dY H) (fd_ H (by kernel_rfl)) (EW (by kernel_rfl))
    case he=>rw [fQ];kernel_rfl
   case s5=>
    refine' ct ?f ?l gl (by with_unfolding_all rfl)
    case f=>wtm_at "Me"
    case l=>wtm_at "Ml"
 have' e:az σ x ((dP ws.length x.cps.toList .S).1+nE) stE "" ++ [.list ((ws.map F4).map .dat)]=σ++(az [] x 0 .S "").take 0++[.inst 852 (oW (σ.length+1) (σ.length+2) (σ.length+3) "" true stE.str ""),.inst 717 (eR x ((dP ws.length x.cps.toList .S).1+nE)),.raw bc,.raw bc,.list ((ws.map F4).map .dat)]:=by
  unfold az;rw [FK];simp
 have e2:(az σ x ((dP ws.length x.cps.toList .S).1+nE) stE "").length=σ.length+4:=by unfold az;simp
 rw [e,e2,FK] at key
 refine key.pure (.dats (EP _ _) ?_)
 exact i9.trans rfl
end
section
variable {C:Cx} (H:bH C) {fz:List Nat} {σ:aC}
include H
theorem uG {x:Str} {k:Nat} {ls:List Str} {g:Str->List Str} (hfz:∀ i∈fz,i<σ.length) (hl:x.length<=100000) (hw:toks k x.cps.toList .S=some ls) (hz:ls.length<=1000) (h:∀ l∈ls,l.length<=100000/\toks k l.cps.toList .S=some (g l)/\(g l).length<=1000) :
  aP C 9 fz (.ref 972) [.dat (.str x)] [] σ (.dat (.list (ls.map fun l=>.list ((g l).map .str)))) σ:=by
 wtm_at "Dp"
 case hr=>exact .ret
 case h=>
  dsimp only;refine' a8 (aT ?rr)
  case rr=>
   refine' dN ?ck ?hi ?hfr ?hcl ?hbl ?hc ?hz ?hf
   case ck=>wtm_at "Mcompok"
   case hi=>
    refine' fg ?k1 (by with_unfolding_all rfl) (.name (by with_unfolding_all rfl))
    case k1=>
     refine' ah ?f (kp_ H (by kernel_rfl)) (aZ ?l (by with_unfolding_all rfl)) (mz H hfz hl hw hz) (by show 7<=8;decide) rfl (by intro _;with_unfolding_all rfl)
     case f=>wtm_at "Me"
     case l=>wtm_at "Ml"
   case hf=>(intro _ _;rfl)
   case hfr=>wtm_at "Mfrees"
   case hcl=>wtm_at "Mclos"
   case hbl=>wtm_at "Mblank"
   case hz=>rw [EF,ER];omega
   case hc=>
    rw [ET]
    refine' cN rfl ?ha ?hee ?hsu
    case ha=>intro l hw;dsimp only [Function.comp];wtm_at "Ma"
    case hsu=>intro l hw;wtm_at "Msub"
    case hee=>
     intro l hl1;obtain ⟨a1,a2,a3⟩:=h l hl1;refine' ah ?f (kp_ H (by kernel_rfl)) (aZ ?l (by with_unfolding_all rfl)) (mz H hfz a1 a2 a3) (by show 7<=8;decide) rfl (by intro _;with_unfolding_all rfl)
     case f=>wtm_at "Me"
     case l=>wtm_at "Ml"
end
section
variable {C:Cx} (H:bH C) {fz:List Nat} {σ:aC}
include H
theorem vx {j:Int} (hfz:∀ i∈fz,i<σ.length):aP C 1 fz (.ref 59) [.ref σ.length,.dat (.int j)] [] (σ++[.slot 63 []]) (.dat .none) (σ++[ce j 0 (σ.length+1),.list []]):=by
 have hz:σ.length∉fz:=fun h=>absurd (hfz _ h) (E5 _)
 wtm_at "Dp"
 case hr=>exact .nxt
 case h=>
  dsimp only;refine' aA (σ₁:=σ++[.slot 63 [some (.dat (.int j))]]) ?s1 (aA (σ₁:=σ++[.slot 63 [some (.dat (.int j)),some (.dat (.int 0))]]) ?s2 (aE ?s3))
  case s1=>
   refine' aq.st (aB ?v ?t) ?he
   case v=>wtm_at "Me"
   case t=>wtm_at "Ma"
   case he=>rw [fQ,];rfl
  case s2=>
   refine' aq.st (aB ?v ?t) ?he
   case v=>wtm_at "Me"
   case t=>wtm_at "Ma"
   case he=>rw [fQ,];rfl
  case s3=>
   refine' aq.st (aB (σ₁:=σ++[.slot 63 [some (.dat (.int j)),some (.dat (.int 0))],.list []]) ?v ?t) ?he
   case v=>
    refine' aG.st (cK ?w ?w2) ?w3
    case w=>wtm_at "Ml"
    case w2=>decide
    case w3=>simp
   case t=>wtm_at "Ma"
   case he=>rw [fQ,];simp [lP,ce]
theorem Az {j:Int} (hfz:∀ i∈fz,i<σ.length):aP C 2 fz (.ref 63) [.dat (.int j)] [] σ (.ref σ.length) (σ++[ce j 0 (σ.length+1),.list []]):=
 j7 (CU H) (C2 H) (fn_ H (by kernel_rfl)) .slot (vx H hfz)
theorem xz {k d i:Nat} {j:Int} {xs:List (Str×AV)} {ys:List (Int×AV)} (h1:σ[k]? = some (.inst 160 xs)) (h2:xs.lookup ("_node2info" : Str)=some (AV.ref d)) (h3:σ[d]? = some (.dict ys)) (h4:atA ys j=some (.ref i)) :
  aP C 1 fz (.ref 103) [.ref k,.dat (.int j)] [] σ (.ref i) σ:=by
 wtm_at "Dp"
 case hr=>exact .ret
 case h=>
  dsimp only;refine' aA (aN ?t aH) (a8 (aT ?e))
  case t=>
   refine' ai (ia ?l ?a) ?r ?o
   case l=>
    refine' aG.of (a':=.ref i) (ed ?ho ?hl (fq h3) PySem.F.plainAttrs_dict PySem.F.slot_dict_get PySem.F.type_dict_get (sH h3) (by intro _;with_unfolding_all rfl) (by intro _;with_unfolding_all rfl) (by with_unfolding_all rfl) (by with_unfolding_all rfl)) (by rw [h4,];rfl)
    case ho=>wtm_at "Me"
    case hl=>wtm_at "Ml"
   case a=>wtm_at "Ma"
   case r=>wtm_at "Me"
   case o=>wtm_at "Mop"
  case e=>wtm_at "Me"
theorem xL {k d:Nat} {j:Int} {xs:List (Str×AV)} {ys:List (Int×AV)} (h1:σ[k]? = some (.inst 160 xs)) (h2:xs.lookup ("_node2info" : Str)=some (AV.ref d)) (h3:σ[d]? = some (.dict ys)) (h4:atA ys j=none) (h5:ys.length<=1000) (hd:d∉fz) (hfz:∀ i∈fz,i<σ.length) :
  aP C 3 fz (.ref 103) [.ref k,.dat (.int j)] [] σ (.ref σ.length) (σ.set d (.dict (ev ys j (.ref σ.length)))++[ce j 0 (σ.length+1),.list []]):=by
 have' hdl:d<σ.length:=(EL.mp h3).1
 have h1':(σ++[ce j 0 (σ.length+1),.list []])[k]? = some (.inst 160 xs):=xW h1
 have' h3':(σ++[ce j 0 (σ.length+1),.list []])[d]? = some (.dict ys):=xW h3
 wtm_at "Dp"
 case hr=>exact .ret
 case h=>
  dsimp only;refine' aA (bL ?t (aE (aq.st (ow (σ₁:=σ++[ce j 0 (σ.length+1),.list []]) ?v ?t1 ?t2) ?he))) (a8 (aT ?e))
  case t=>
   refine' aY.of (ai (ia ?l ?a) ?r ?o) ?dd
   case l=>
    refine' aG.of (a':=.dat .none) (ed ?ho ?hl (fq h3) PySem.F.plainAttrs_dict PySem.F.slot_dict_get PySem.F.type_dict_get (sH h3) (by intro _;with_unfolding_all rfl) (by intro _;with_unfolding_all rfl) (by with_unfolding_all rfl) (by with_unfolding_all rfl)) (by rw [h4,];rfl)
    case ho=>wtm_at "Me"
    case hl=>wtm_at "Ml"
   case a=>wtm_at "Ma"
   case r=>wtm_at "Me"
   case o=>wtm_at "Mop"
   case dd=>decide
  case v=>
   refine' ah ?f (kp_ H (by kernel_rfl)) (aZ ?l (by with_unfolding_all rfl)) (Az H hfz) (EK 2) rfl (by intro _;with_unfolding_all rfl)
   case f=>wtm_at "Me"
   case l=>wtm_at "Ml"
  case t1=>
   refine' iS ?k1 ?k2 h3' hd h5
   case k1=>wtm_at "Me"
   case k2=>wtm_at "Me"
  case t2=>wtm_at "Ma"
  case he=>rw [z6 hdl,]
  case e=>wtm_at "Me"
end
section
variable {C:Cx} (H:bH C) {fz:List Nat} {σ:aC}
include H
theorem za (hfz:∀ i∈fz,i<σ.length):aP C 1 fz (.ref 96) [.ref σ.length] [] (σ++[.inst 160 []]) (.dat .none) (σ++(bd σ.length (.dat .none) 0 0 []++[])):=by
 have hz:σ.length∉fz:=fun h=>absurd (hfz _ h) (E5 _)
 wtm_at "De"
 case hb=>
  refine' bQ.plain ["self"] [("graph",.none)] [("graph",.dat .none)] ?_ (fun zz zz=>⟨⟨rfl,[],.none⟩,trivial⟩)
  intro vs hl S
  (rcases vs with _ | ⟨v1,_ | ⟨v2,vs⟩⟩)<;>first | (cases hl;done) | (rw [bH.K (by assumption)];kernel_rfl)
 case bl=>wtm_at "Mblank"
 case st=>(simp only [F8,FX,Fp,Eo,EZ];wtm_at "Mstall")
 case hr=>exact .nxt
 case h=>
  dsimp only;refine' aA (σ₁:=σ++[.inst 160 [("_node2info",.ref (σ.length+1))],.dict []]) ?s1 (aA (σ₁:=σ++[.inst 160 [("_node2info",.ref (σ.length+1)),("_ready_nodes",.dat .none)],.dict []]) ?s2 (aA (σ₁:=σ++[.inst 160 [("_node2info",.ref (σ.length+1)),("_ready_nodes",.dat .none),("_npassedout",.dat (.int 0))],.dict []]) ?s3 (aA (σ₁:=σ++(bd σ.length (.dat .none) 0 0 []++[])) ?s4 (aE ?s5))))
  case s1=>
   refine' aq.st (aB (σ₁:=σ++[.inst 160 [],.dict []]) ?v ?t) ?he
   case v=>
    refine' aG.st mr ?w3
    case w3=>simp
   case t=>wtm_at "Ma"
   case he=>rw [fQ];simp [lg]
  case s2=>
   refine' aq.st (aB ?v ?t) ?he
   case v=>wtm_at "Me"
   case t=>wtm_at "Ma"
   case he=>rw [fQ];rfl
  case s3=>
   refine' aq.st (aB ?v ?t) ?he
   case v=>wtm_at "Me"
   case t=>wtm_at "Ma"
   case he=>rw [fQ];rfl
  case s4=>
   refine' aq.st (aB ?v ?t) ?he
   case v=>wtm_at "Me"
   case t=>wtm_at "Ma"
   case he=>rw [fQ];rfl
  case s5=>
   refine' aN (aY.of ?t ?d) aH
   case t=>wtm_at "Mt"
   case d=>decide
theorem vH (hfz:∀ i∈fz,i<σ.length):aP C 2 fz (.ref 160) [] [] σ (.ref σ.length) (σ++(bd σ.length (.dat .none) 0 0 []++[])):=
 j7 (B1 H) (B3 H) (fn_ H (by kernel_rfl)) .inst (za H hfz)
end
noncomputable def eW (n:Nat) (l:List Nd) (p:Nat):List Nd:=match l[p]? with
 | some x=>l.set p ⟨x.np,x.sc++[n]⟩
 | none=>l
noncomputable def kA (nds:List Nd) (preds:List Nat):List Nd:=preds.foldl (eW nds.length) (nds++[⟨preds.length,[]⟩])
theorem uz (n:Nat) (l:List Nd) (p:Nat):(eW n l p).length=l.length:=by unfold eW;split<;>simp
theorem kz (n:Nat):∀ (ps:List Nat) (l:List Nd),(ps.foldl (eW n) l).length=l.length:=by
 intro ps
 induction ps with
 | nil=>exact fun zz=>rfl
 | cons p ps ih=>
  intro l
  rw [Fk,ih,uz]
set_option tactic.hygienic true in
theorem yM {n:Nat} {l:List Nd} {p m:Nat} (h:∀ x∈l,x.sc.length<=m):∀ x∈eW n l p,x.sc.length<=m+1:=by
 unfold eW
 split
 ·rename_i y hy
  intro x hx
  rcases Jd hx with hx | rfl
  ·exact Fl (h x hx)
  ·have:=h y (EN hy)
   simp;omega
 ·exact fun x hx=>Fl (h x hx)
theorem mZ {n:Nat}:∀ (ps:List Nat) (l:List Nd) (m:Nat),(∀ x∈l,x.sc.length<=m)->∀ x∈ps.foldl (eW n) l,x.sc.length<=m+ps.length:=by
 intro ps
 induction ps with
 | nil=>exact fun zz zz h=>h
 | cons p ps ih=>
  intro l m h
  rw [Fk,E0]
  intro x hx;have:=ih (eW n l p) (m+1) (yM h) x hx
  omega
section
variable {C:Cx} (H:bH C) {fz:List Nat} {σ:aC}
include H
theorem BX {nds:List Nd} {preds:List Nat} (hp:∀ p∈preds,p<nds.length) (hl:preds.length<=4) (hn:nds.length<=100) (hsc:∀ x∈nds,x.sc.length<=100) (hfz:∀ i∈fz,i<σ.length) :
  aP C 5 fz (.ref 110) (.ref σ.length :: .dat (.int nds.length) :: (preds.map nD).map .dat) [] (σ++(bd σ.length (.dat .none) 0 0 nds++[])) (.dat .none) (σ++(bd σ.length (.dat .none) 0 0 (kA nds preds)++[])):=by
 have hfz2:∀ i∈fz,i<(σ++(bd σ.length (.dat .none) 0 0 nds++[])).length:=fun i hi=>by rw [EX];exact Nat.lt_add_right _ (hfz i hi)
 have hz1:σ.length+1∉fz:=fun h=>by have:=hfz _ h;omega
 have hz2:∀ i,σ.length+2+i∉fz:=fun i h=>by have:=hfz _ h;omega
 have hz3:∀ i,σ.length+3+i∉fz:=fun i h=>by have:=hfz _ h;omega
 have hlen:(σ++(bd σ.length (.dat .none) 0 0 nds++[])).length=σ.length+2+2 * nds.length:=by rw [FH,EX,cR];omega
 wtm_at "De"
 case hb=>
  refine' bQ.var ["self", "node"] "predecessors" 2 (preds.map nD) rfl ?_;intro vs hv S
  rw [E0,E0,EF,EF] at hv
  (rcases vs with _ | ⟨v1,_ | ⟨v2,_ | ⟨v3,_ | ⟨v4,_ | ⟨v5,_ | ⟨v6,_ | ⟨v7,vs⟩⟩⟩⟩⟩⟩⟩)<;>first | (exfalso;simp only [E0,KX] at hv;omega;done) | (rw [bH.K (by assumption)];exact ⟨fun D=>some (_++[(_,.ref D)]),by kernel_rfl,fun zz=>rfl⟩)
 case bl=>wtm_at "Mblank"
 case st=>(simp only [F8,FX,Fp,Eo,EZ];wtm_at "Mstall")
 case hr=>exact .nxt
 case h=>
  dsimp only;have hnew:(nds++[(⟨0,[]⟩:Nd)])[nds.length]? = some ⟨0,[]⟩:=EY;refine' aA (aN (aY.of ?t0 ?d0) aH) (aA (σ₁:=σ++(bd σ.length (.dat .none) 0 0 (nds++[⟨0,[]⟩])++[])) ?s1 (aA (σ₁:=σ++(bd σ.length (.dat .none) 0 0 (nds++[⟨preds.length,[]⟩])++[])) ?s2 (aE ?s3)))
  case t0=>wtm_at "Mt"
  case d0=>decide
  case s1=>
   refine' aB (a:=.ref (σ.length+2+2 * nds.length)) ?v ?t
   case v=>
    have cg:=xL H (fz:=fz) (σ:=σ++(bd σ.length (.dat .none) 0 0 nds++[])) (k:=σ.length) (d:=σ.length+1) (j:=nds.length) dH rfl gG vX (by simp [gu];omega) hz1 hfz2
    rw [hlen,wT,AL] at cg
    refine' bC ?ho (bB dH (bw H) (fd_ H (by kernel_rfl)) (fn_ H (by kernel_rfl)) rfl) (kp_ H (by kernel_rfl)) (aZ ?l (by with_unfolding_all rfl)) cg (Ej 3) rfl (by intro _;exact ⟨_,rfl⟩)
    case ho=>wtm_at "Me"
    case l=>wtm_at "Ml"
   case t=>wtm_at "Ma"
  case s2=>
   refine' aq.st (fJ ?o ?g ?v (OpG.of2 oO) ?ss) ?he
   case o=>wtm_at "Me"
   case g=>exact dD (eo hnew) (eN H) (iN H) rfl
   case v=>
    have hz:(((preds.map nD).length:Nat):Int)<2 ^ 63:=by rw [EF];omega
    wtm_at "Me"
   case ss=>exact gY (eo hnew) (hz2 _) (eN H) (iN H) (by decide)
   case he=>
    have e1:=pz (σ:=σ) (post:=[]) (rd:=.dat .none) (po:=0) (nf:=0) hnew ((0:Int)+((preds.map nD).length:Nat));have' e2:(nds++[(⟨0,[]⟩:Nd)]).set nds.length (⟨(0:Int)+((preds.map nD).length:Nat),[]⟩:Nd)=nds++[⟨preds.length,[]⟩]:=by
     rw [Eh _ _ (EK _),GB];simp
    rw [e2] at e1
    exact e1
  case s3=>
   refine' bf (ls:=[]) ?hi ?hf
   case hi=>wtm_at "Mi"
   case hf=>
    dsimp only [EZ]
    rw [ET]
    obtain ⟨S,hS⟩:∃ S:List Nat->aC,∀ q,S q=σ++(bd σ.length (.dat .none) 0 0 (q.foldl (eW nds.length) (nds++[⟨preds.length,[]⟩]))++[]):=⟨_,fun zz=>rfl⟩
    have e0:σ++(bd σ.length (.dat .none) 0 0 (nds++[⟨preds.length,[]⟩])++[])=S []:=by rw [hS];rfl
    have e9:σ++(bd σ.length (.dat .none) 0 0 (kA nds preds)++[])=S preds:=by rw [hS];rfl
    rw [e0,e9]
    refine' cW (S:=S) ?ha ?hb
    case ha=>intro pre x post hx;dsimp only [Function.comp];wtm_at "Ma"
    case hb=>
     intro pre x post hx;have hxn:x<nds.length:=hp x (by rw [hx];simp)
     have hpl:pre.length<=4:=by have:=congrArg H7 hx;simp at this;omega
     have' hll:=kz nds.length pre (nds++[⟨preds.length,[]⟩])
     rw [hS,hS,G9,Fk,J9]
     have' hsc2:=mZ (n:=nds.length) pre (nds++[⟨preds.length,[]⟩]) 100 (fun y hy=>by
      rcases EG.mp hy with hy | hy
      ·exact hsc y hy
      ·rw [EJ.mp hy];exact En _)
     generalize pre.foldl (eW nds.length) (nds++[⟨preds.length,[]⟩])=cur at *
     rw [EX,Ei] at hll
     have hxc:cur[x]? = some (cur[x]'(by omega)):=by simp
     generalize (cur[x]'(by omega))=y at hxc
     have e3:eW nds.length cur x=cur.set x ⟨y.np,y.sc++[nds.length]⟩:=by unfold eW;rw [hxc]
     have hyl:=hsc2 y (EN hxc)
     rw [e3]
     refine' aw.sub (aA ?u1 (aE ?u2)) ?sb
     case u1=>
      refine' aB (a:=.ref (σ.length+2+2 * x)) ?v ?t
      case v=>
       have' cg:=xz H (fz:=fz) (σ:=σ++(bd σ.length (.dat .none) 0 0 cur++[])) (k:=σ.length) (d:=σ.length+1) (j:=x) dH rfl gG (ik (by omega))
       refine' bC ?ho (bB dH (bw H) (fd_ H (by kernel_rfl)) (fn_ H (by kernel_rfl)) rfl) (kp_ H (by kernel_rfl)) (aZ ?l (by with_unfolding_all rfl)) cg (by show 1<=4;decide) rfl (by intro _;exact ⟨_,rfl⟩)
       case ho=>wtm_at "Me"
       case l=>wtm_at "Ml"
      case t=>wtm_at "Ma"
     case u2=>
      refine' aq.st (bO (ba (i:=σ.length+3+2 * x) (xs:=y.sc.map bX) (a:=.dat (.int nds.length)) ?ho ?hv ⟨_,ig hxc⟩ (ig hxc) (hz3 _) ?hsz)) ?he
      case ho=>
       refine' bW ?k1 (dD (eo hxc) (eN H) (sO H) rfl)
       case k1=>wtm_at "Me"
      case hv=>wtm_at "Me"
      case hsz=>rw [EF,ER];omega
      case he=>
       have:=yC (σ:=σ) (post:=[]) (rd:=.dat .none) (po:=0) (nf:=0) hxc (y.sc++[nds.length])
       rw [Ek] at this
       exact this
     case sb=>wtm_at "Msub"
end
noncomputable def bA (row:List Nat) (b:Nat->Nat->Bool) (p:Nat):List Nat:=(EQ p).filter fun at_=>b (row.getD at_ 0) (row.getD p 0)
noncomputable def bo (row:List Nat) (b:Nat->Nat->Bool) (n:Nat):List Nd:=(EQ n).foldl (fun nds p=>kA nds (bA row b p)) []
theorem un (nds:List Nd) (preds:List Nat):(kA nds preds).length=nds.length+1:=by unfold kA;rw [kz];simp
theorem ft (row:List Nat) (b:Nat->Nat->Bool) (n:Nat):bo row b (n+1)=kA (bo row b n) (bA row b n):=by unfold bo;rw [HI,G9];rfl
theorem cV (row:List Nat) (b:Nat->Nat->Bool):∀ n,(bo row b n).length=n:=by
 intro n
 induction n with
 | zero=>rfl
 | succ n ih=>rw [ft,un,ih]
theorem ji (row:List Nat) (b:Nat->Nat->Bool) (p:Nat):(bA row b p).length<=p:=by
 have:=FL (fun at_=>b (row.getD at_ 0) (row.getD p 0)) (EQ p)
 rwa [FV] at this
theorem xK (row:List Nat) (b:Nat->Nat->Bool):∀ n,∀ x∈bo row b n,x.sc.length<=n * n:=by
 intro n
 induction n with
 | zero=>exact fun x hx=>by cases hx
 | succ n ih=>
  intro x hx
  rw [ft] at hx
  unfold kA at hx
  have h:=mZ (n:=(bo row b n).length) (bA row b n) (bo row b n++[⟨(bA row b n).length,[]⟩]) (n * n) (fun y hy=>by
   rcases EG.mp hy with hy | hy
   ·exact ih y hy
   ·rw [EJ.mp hy];exact En _) x hx
  have:=ji row b n;have:(n+1) * (n+1)=n * n+n+n+1:=by rw [Nat.add_mul,Nat.mul_add];omega
  omega
section
variable {C:Cx} (H:bH C) {fz:List Nat} {σ:aC}
include H
theorem kC {row:List Nat} {b:Nat->Nat->Bool} (hr:row.length=5) (hr4:∀ x∈row,x<4) (hfz:∀ i∈fz,i<σ.length) :
  aP C 7 fz (.ref 925) [.dat (be row),.dat (dB b)] [] σ (.ref σ.length) (σ++(bd σ.length (.dat .none) 0 0 (bo row b 5)++[])):=by
 unfold be dB
 wtm_at "Dp"
 case hr=>exact .ret
 case h=>
  dsimp only;obtain ⟨S,hS⟩:∃ S:List Nat->aC,∀ q,S q=σ++(bd σ.length (.dat .none) 0 0 (bo row b q.length)++[]):=⟨_,fun zz=>rfl⟩
  refine' aA (σ₁:=S []) ?s1 (aA (σ₁:=S (EQ 5)) ?s2 (aw.st (σ₁:=S (EQ 5)) (a8 (aT ?s3)) ?s4))
  case s4=>rw [hS,FV]
  case s1=>
   refine' aq.st (aB ?v ?t) ?he
   case v=>
    refine' ah ?f (kp_ H (by kernel_rfl)) b7 (vH H hfz) (by show 2<=6;decide) rfl (by intro _;with_unfolding_all rfl)
    case f=>wtm_at "Me"
   case t=>wtm_at "Ma"
   case he=>rw [hS];rfl
  case s2=>
   refine' bf (ls:=[]) ?hi ?hf
   case hi=>
    have h1:(5:Int)<2 ^ 62:=by decide
    have h2:-(2 ^ 62)<=(5:Int):=by decide
    wtm_at "Mi"
   case hf=>
    rw [show ((5:Int)).toNat=5 from rfl,dG]
    dsimp only [EZ];refine' cW (S:=S) ?ha ?hb
    case ha=>intro pre p post hx;wtm_at "Ma"
    case hb=>
     intro pre p post hx;obtain ⟨hpl,hp5⟩:=eK hx;subst hpl;have' hl4:pre.length<row.length:=by omega
     have e2:=gC hl4;have x0:(0:Int)<=(pre.length:Int):=E7 _;have x1:(pre.length:Int)<2 ^ 63:=by omega
     have' hy4:row.getD pre.length 0<4:=gz hr4;have y0:(0:Int)<=((row.getD pre.length 0:Nat):Int):=E7 _;have y1:((row.getD pre.length 0:Nat):Int)<2 ^ 63:=by omega
     have hnl:=cV row b pre.length;have hps:=ji row b pre.length
     rw [hS,hS,EX,Ei,ft]
     have ca:=BX H (fz:=fz) (σ:=σ) (nds:=bo row b pre.length) (preds:=bA row b pre.length) (fun p hp=>by rw [hnl];exact Ef.mp ((FM.mp hp).1)) (by omega) (by omega) (fun x hx=>by
      have:=xK row b pre.length x hx;have:pre.length * pre.length<=4 * 4:=Nat.mul_le_mul (by omega) (by omega)
      omega) hfz
     rw [hnl] at ca
     refine' aw.sub (aE (bO (mL ?ho dH (bw H) (fd_ H (by kernel_rfl)) (sp_ H (by kernel_rfl)) (tk_ H (by kernel_rfl)) (by decide +kernel) rfl (fi_ H (by kernel_rfl)) (fn_ H (by kernel_rfl)) (by intro _;rfl) (r9 ?x ?c .list ?hz (by with_unfolding_all rfl)) ca (by show 5<6;decide)))) ?sb
     case ho=>wtm_at "Me"
     case x=>wtm_at "Me"
     case hz=>rw [EF,ER];omega
     case c=>
      have h1:((pre.length:Nat):Int)<2 ^ 62:=by omega
      have h2:-(2 ^ 62)<=((pre.length:Nat):Int):=by omega
      wtm_at "Dc"
      case hz=>rw [EF,ER];omega
      case hc=>
       rw [show (((pre.length:Nat):Int)).toNat=pre.length by omega,dG]
       refine' cT ?ha ?ht ?he ?hs
       case ha=>intro a ha;wtm_at "Ma"
       case hs=>intro a ha;wtm_at "Msub"
       case he=>intro a ha _;wtm_at "Me"
       case ht=>
        intro a ha;have hal:a<row.length:=by have:=Ef.mp ha;omega
        have f2:=gC hal;have a0:(0:Int)<=(a:Int):=E7 _;have a1:(a:Int)<2 ^ 63:=by omega
        have' hz4:row.getD a 0<4:=gz hr4;have z0:(0:Int)<=((row.getD a 0:Nat):Int):=E7 _;have z1:((row.getD a 0:Nat):Int)<2 ^ 63:=by omega
        have f3:=iq (b:=b) hz4;have f4:=jP (b:=b (row.getD a 0)) hy4;refine cm ?_;wtm_at "Mt"
     case sb=>wtm_at "Msub"
  case s3=>rw [hS];wtm_at "Me"
end
section
variable {C:Cx} (H:bH C) {fz:List Nat} {σ:aC}
include H
theorem kx {Z post:aC} {rd:List Nat} {po nf:Int} {nds:List Nd} (hr:∀ p∈rd,p<nds.length) (hl:rd.length<=100) (hn:nds.length<=100) (hfz:∀ i∈fz,i<Z.length) :
  aP C 2 fz (.ref 122) [.ref Z.length] [] (so5 Z rd po nf nds post) (.dat (.tuple (rd.map nD))) (so5 Z [] (po+rd.length) nf (rd.foldl (bN (-1)) nds) post):=by
 have' hz0:Z.length∉fz:=fun h=>absurd (hfz _ h) (E5 _)
 have hz2:∀ i,Z.length+2+i∉fz:=fun i h=>by have:=hfz _ h;omega
 wtm_at "Dp"
 case hr=>exact .ret
 case h=>
  dsimp only;have hL:=eM (-1) rd nds;refine' aA (aN (aY.of ?t0 ?d0) aH) (aA ?s1 (aA ?s2 (aA (σ₁:=so5 Z rd po nf (rd.foldl (bN (-1)) nds) post) ?s3 (aA (σ₁:=so5 Z [] po nf (rd.foldl (bN (-1)) nds) post) ?s4 (aA (σ₁:=so5 Z [] (po+rd.length) nf (rd.foldl (bN (-1)) nds) post) ?s5 (a8 (aT ?s6)))))))
  case t0=>wtm_at "Mt"
  case d0=>rfl
  case s1=>
   refine' aB ?v ?t
   case v=>
    refine' ct ?f ?l (wb (ds:=rd.map nD) (qU.trans (by rw [zr])) (by rw [EF,ER];omega)) (by with_unfolding_all rfl)
    case f=>wtm_at "Me"
    case l=>wtm_at "Ml"
   case t=>wtm_at "Ma"
  case s2=>
   refine' aB ?v ?t
   case v=>wtm_at "Me"
   case t=>wtm_at "Ma"
  case s3=>
   refine' bf (ls:=[]) ?hi ?hf
   case hi=>wtm_at "Mi"
   case hf=>
    dsimp only [EZ]
    rw [ET]
    obtain ⟨S,hS⟩:∃ S:List Nat->aC,∀ q,S q=so5 Z rd po nf (q.foldl (bN (-1)) nds) post:=⟨_,fun zz=>rfl⟩
    have e0:so5 Z rd po nf nds post=S []:=by rw [hS];rfl
    rw [e0,<- hS]
    refine' cW (S:=S) ?ha ?hb
    case ha=>intro pre x post' hx;dsimp only [Function.comp];wtm_at "Ma"
    case hb=>
     intro pre x post' hx;have hxn:x<nds.length:=hr x (by rw [hx];simp)
     have hll:=eM (-1) pre nds
     rw [hS,hS,G9,Fk,J9]
     generalize pre.foldl (bN (-1)) nds=cur at *
     have hxc:cur[x]? = some (cur[x]'(by omega)):=by simp
     generalize (cur[x]'(by omega))=y at hxc
     have e3:bN (-1) cur x=cur.set x ⟨-1,y.sc⟩:=by unfold bN;rw [hxc]
     rw [e3]
     refine' aw.sub (aE (aq.st (aB (a:=.dat (.int (-1))) (aG.int (t:=334) ?v) (b8 (gE ?k1 ?k2 jL (ik (by omega))) (gY (fB hxc) (hz2 _) (eN H) (iN H) (by decide)))) ?he)) ?sb
     case v=>wtm_at "Me"
     case k1=>wtm_at "Me"
     case k2=>wtm_at "Me"
     case he=>exact lF hxc (-1)
     case sb=>wtm_at "Msub"
  case s4=>
   have h2:=qU (Z:=Z) (rd:=rd) (po:=po) (nf:=nf) (nds:=rd.foldl (bN (-1)) nds) (post:=post);refine' aq.st (bO (j0 (T := "list") (a:=.ref (Z.length+2+2 * (rd.foldl (bN (-1)) nds).length)) (σ₁:=so5 Z rd po nf (rd.foldl (bN (-1)) nds) post) ?ho (dJ h2) PySem.F.plainAttrs_list PySem.F.slot_list_clear PySem.F.type_list_clear (wD h2 ?hz ?hsz) (by intro _;with_unfolding_all rfl) (by with_unfolding_all rfl))) ?he
   case ho=>wtm_at "Me"
   case hz=>exact hz2 _
   case hsz=>rw [EF,ER];omega
   case he=>exact qD (rd':=[])
  case s5=>
   refine' aq.st (fJ ?o ?g ?v (OpG.of2 oO) ?ss) ?he
   case o=>wtm_at "Me"
   case g=>exact cI cO (bw H) (fd_ H (by kernel_rfl)) rfl
   case v=>
    have hz:(((rd.map nD).length:Nat):Int)<2 ^ 63:=by rw [EF];omega
    wtm_at "Me"
   case ss=>exact bj cO hz0 (bw H) (fd_ H (by kernel_rfl)) (by show 4<1000;decide)
   case he=>
    have:=lS (Z:=Z) (post:=post) (rd:=[]) (po:=po) (nf:=nf) (nds:=rd.foldl (bN (-1)) nds) (po':=po+((rd.map nD).length:Nat)) (nf':=nf)
    rw [EF] at this
    rw [EF]
    exact this
  case s6=>wtm_at "Me"
theorem gH {Z post:aC} {rd:List Nat} {po nf:Int} {nds:List Nd} (hl:rd.length<=1000) :
  aP C 2 fz (.ref 129) [.ref Z.length] [] (so5 Z rd po nf nds post) (.dat (.bool (decide (nf<po) || !rd.isEmpty))) (so5 Z rd po nf nds post):=by
 wtm_at "Dp"
 case hr=>exact .ret
 case h=>
  dsimp only;refine' aA (aN (aY.of ?t0 ?d0) aH) (a8 (aT (aG.of (oB ?x ?y) ?e)))
  case t0=>wtm_at "Mt"
  case d0=>rfl
  case x=>wtm_at "Me"
  case y=>
   intro _;refine' ct ?f ?l (yv qU (by rw [EF];exact hl)) (by with_unfolding_all rfl)
   case f=>wtm_at "Me"
   case l=>wtm_at "Ml"
  case e=>cases rd<;>rfl
end
noncomputable def eI (s:List Nd×List Nat) (j:Nat):List Nd×List Nat:=match s.1[j]? with
 | some x=>(s.1.set j ⟨x.np - 1,x.sc⟩,if x.np - 1==0 then s.2++[j] else s.2)
 | none=>s
noncomputable def av (s:List Nd×List Nat) (i:Nat):List Nd×List Nat:=match s.1[i]? with
 | some x=>x.sc.foldl eI (s.1.set i ⟨-2,x.sc⟩,s.2)
 | none=>s
theorem iu {l:List Nd} {j:Nat} {x:Nd} {np:Int} (h:l[j]? = some x):(l.set j ⟨np,x.sc⟩).map (·.sc)=l.map (·.sc):=by
 rw [L5]
 refine Ia fun i=>?_
 by_cases hi:i=j
 ·subst hi
  have' hl:=(EL.mp h).1
  rw [F9 (by rw [EF];exact hl),Em,h];rfl
 ·rw [Fm (Ne.symm hi)]
set_option tactic.hygienic true in
theorem zb (s:List Nd×List Nat) (j:Nat):(eI s j).1.map (·.sc)=s.1.map (·.sc)/\(eI s j).2.length<=s.2.length+1:=by
 unfold eI
 split
 ·rename_i x hx
  refine ⟨iu hx,?_⟩;dsimp only
  split
  ·simp
  ·exact Ej _
 ·exact ⟨rfl,Ej _⟩
theorem lJ:∀ (js:List Nat) (s:List Nd×List Nat),(js.foldl eI s).1.map (·.sc)=s.1.map (·.sc)/\(js.foldl eI s).2.length<=s.2.length+js.length:=by
 intro js
 induction js with
 | nil=>exact fun zz=>⟨rfl,EK _⟩
 | cons j js ih=>
  intro s;have h1:=ih (eI s j);have h2:=zb s j
  rw [Fk,E0]
  exact ⟨h1.1.trans h2.1,by omega⟩
theorem oV {l l':List Nd} (h:l.map (·.sc)=l'.map (·.sc)):l.length=l'.length:=by have:=congrArg H7 h;simpa using this
theorem xj {l l':List Nd} (h:l.map (·.sc)=l'.map (·.sc)) {i:Nat} {x:Nd} (hx:l[i]? = some x):∃ y∈l',y.sc=x.sc:=by
 have h1:(l.map (·.sc))[i]? = some x.sc:=by rw [Em,hx];rfl
 rw [h,Em] at h1
 obtain ⟨y,hy,e⟩:=FP.mp h1
 exact ⟨y,EN hy,e⟩
set_option tactic.hygienic true in
theorem sD (s:List Nd×List Nat) (i m:Nat) (hm:∀ x∈s.1,x.sc.length<=m):(av s i).1.map (·.sc)=s.1.map (·.sc)/\(av s i).2.length<=s.2.length+m:=by
 unfold av
 split
 ·rename_i x hx
  have h:=lJ x.sc (s.1.set i ⟨-2,x.sc⟩,s.2);have:=hm x (EN hx);exact ⟨h.1.trans (iu hx),by have:=h.2;dsimp only at this;omega⟩
 ·exact ⟨rfl,EP _ _⟩
theorem vr:∀ (is:List Nat) (s:List Nd×List Nat) (m:Nat),(∀ x∈s.1,x.sc.length<=m)->(is.foldl av s).1.map (·.sc)=s.1.map (·.sc)/\(is.foldl av s).2.length<=s.2.length+m * is.length:=by
 intro is
 induction is with
 | nil=>exact fun zz zz zz=>⟨rfl,EP _ _⟩
 | cons i is ih=>
  intro s m hm;have h2:=sD s i m hm;have h1:=ih (av s i) m (fun x hx=>by
   obtain ⟨k,hk⟩:=Iz hx;obtain ⟨y,hy,e⟩:=xj h2.1 hk
   rw [<- e];exact hm y hy)
  rw [Fk,E0,Nat.mul_add]
  exact ⟨h1.1.trans h2.1,by omega⟩
section
variable {C:Cx} (H:bH C) {fz:List Nat} {σ:aC}
include H
theorem xX {Z post:aC} {rd:List Nat} {po nf:Int} {nds:List Nd} {is:List Nat} (hl:is.length<=5) (hrl:rd.length<=100) (hn:nds.length<=100) (hsl:∀ x∈nds,x.sc.length<=100) (hsc:∀ x∈nds,∀ j∈x.sc,j<nds.length)
  (hst:∀ pre x post,is=pre++x :: post->∃ y,(pre.foldl av (nds,rd)).1[x]? = some y/\y.np=-1) (hfz:∀ i∈fz,i<Z.length) :
  aP C 2 fz (.ref 143) (.ref Z.length :: (is.map nD).map .dat) [] (so5 Z rd po nf nds post) (.dat .none) (so5 Z (is.foldl av (nds,rd)).2 po (nf+is.length) (is.foldl av (nds,rd)).1 post):=by
 have' hz0:Z.length∉fz:=fun h=>absurd (hfz _ h) (E5 _)
 have hz2:∀ i,Z.length+2+i∉fz:=fun i h=>by have:=hfz _ h;omega
 wtm_at "De"
 case hb=>
  refine' bQ.var ["self"] "nodes" 1 (is.map nD) rfl ?_;intro vs hv S
  rw [E0,EF,EF] at hv
  (rcases vs with _ | ⟨v1,_ | ⟨v2,_ | ⟨v3,_ | ⟨v4,_ | ⟨v5,_ | ⟨v6,_ | ⟨v7,vs⟩⟩⟩⟩⟩⟩⟩)<;>first | (exfalso;simp only [E0,KX] at hv;omega;done) | (rw [bH.K (by assumption)];exact ⟨fun D=>some (_++[(_,.ref D)]),by kernel_rfl,fun zz=>rfl⟩)
 case bl=>wtm_at "Mblank"
 case st=>(simp only [F8,FX,Fp,Eo,EZ];wtm_at "Mstall")
 case hr=>exact .nxt
 case h=>
  dsimp only;refine' aA (aN (aY.of ?t0 ?d0) aH) (aA ?s1 (aE ?s2))
  case t0=>wtm_at "Mt"
  case d0=>rfl
  case s1=>
   refine' aB ?v ?t
   case v=>wtm_at "Me"
   case t=>wtm_at "Ma"
  case s2=>
   refine' bf (ls:=[]) ?hi ?hf
   case hi=>wtm_at "Mi"
   case hf=>
    dsimp only [EZ]
    rw [ET]
    obtain ⟨S,hS⟩:∃ S:List Nat->aC,∀ q,S q=so5 Z (q.foldl av (nds,rd)).2 po (nf+q.length) (q.foldl av (nds,rd)).1 post:=⟨_,fun zz=>rfl⟩
    have e0:so5 Z rd po nf nds post=S []:=by rw [hS];simp
    rw [e0,<- hS]
    refine' cW (S:=S) ?ha ?hb
    case ha=>intro pre x post' hx;dsimp only [Function.comp];wtm_at "Ma"
    case hb=>
     intro pre i post' hx;obtain ⟨y,hy,hnp⟩:=hst pre i post' hx;have hpl:pre.length<=5:=by have:=congrArg H7 hx;simp at this;omega
     have hD:=vr pre (nds,rd) 100 hsl
     rw [hS,hS,G9,Fk,J9,EX,Ei]
     generalize pre.foldl av (nds,rd)=cur at *
     obtain ⟨cn,cr⟩:=cur;dsimp only at hy hD ⊢
     have' hcl:=oV hD.1;have hin:i<cn.length:=(EL.mp hy).1;obtain ⟨y0,hy0,ey⟩:=xj hD.1 hy;have hyl:y.sc.length<=100:=ey▸hsl y0 hy0;have hyj:∀ j∈y.sc,j<cn.length:=fun j hj=>by rw [hcl];exact hsc y0 hy0 j (ey▸hj)
     have hcr:cr.length<=100+100 * 5:=by have:100 * pre.length<=100 * 5:=Gb _ hpl;omega
     have eD:av (cn,cr) i=y.sc.foldl eI (cn.set i ⟨-2,y.sc⟩,cr):=by unfold av;rw [hy]
     rw [eD]
     generalize hnf:nf+(pre.length:Int)=nf1;have hnf2:nf+((pre.length+1:Nat):Int)=nf1+1:=by rw [<- hnf];push_cast;omega
     rw [hnf2]
     have hi2:(cn.set i ⟨-2,y.sc⟩)[i]? = some ⟨-2,y.sc⟩:=by simp [hin]
     refine' aw.sub (aA (aN (aY.of (ai (ia ?l ?a) ?r ?o) ?d1) aH) (aA ?b2 (aA (aN (aY.of ?t3 ?d3) aH) (aA (σ₁:=so5 Z cr po nf1 (cn.set i ⟨-2,y.sc⟩) post) ?b4 (aA (σ₁:=so5 Z (y.sc.foldl eI (cn.set i ⟨-2,y.sc⟩,cr)).2 po nf1 (y.sc.foldl eI (cn.set i ⟨-2,y.sc⟩,cr)).1 post) ?b5 (aE ?b6)))))) ?sb
     case l=>
      refine' aG.of (a':=.ref (Z.length+2+2 * i)) (ed ?ho ?hl (fq jL) PySem.F.plainAttrs_dict PySem.F.slot_dict_get PySem.F.type_dict_get (sH jL) (by intro _;with_unfolding_all rfl) (by intro _;with_unfolding_all rfl) (by with_unfolding_all rfl) (by with_unfolding_all rfl)) (by rw [ik hin];rfl)
      case ho=>wtm_at "Me"
      case hl=>wtm_at "Ml"
     case a=>wtm_at "Ma"
     case r=>wtm_at "Me"
     case o=>wtm_at "Mop"
     case d1=>rfl
     case b2=>
      refine' aB ?v ?t
      case v=>
       refine' bW ?k1 (dD (fB hy) (eN H) (iN H) rfl)
       case k1=>wtm_at "Me"
      case t=>wtm_at "Ma"
     case t3=>
      refine' ai ?l3 (aG.int (t:=334) ?r3) (OpG.of2 xF)
      case l3=>wtm_at "Me"
      case r3=>wtm_at "Me"
     case d3=>rw [hnp];rfl
     case b4=>
      refine' aq.st (aB (a:=.dat (.int (-2))) (aG.int (t:=337) ?v) (b8 ?k1 (gY (fB hy) (hz2 _) (eN H) (iN H) (by decide)))) ?he
      case v=>wtm_at "Me"
      case k1=>wtm_at "Me"
      case he=>exact lF hy (-2)
     case b5=>
      refine' bf (ls:=[Z.length+3+2 * i]) (vd ?k1 (sU hi2) (by with_unfolding_all rfl) (by with_unfolding_all rfl)) ?hf2
      case k1=>
       refine' bW ?k1 (dD (fB hi2) (eN H) (sO H) rfl)
       case k1=>wtm_at "Me"
      case hf2=>
       have hz4:∀ j,Z.length+2+2 * j∉[Z.length+3+2 * i]++fz:=fun j h=>by
        rcases EG.mp h with h | h
        ·rw [EJ] at h;omega
        ·exact hz2 _ h
       obtain ⟨T,hT⟩:∃ T:List Nat->aC,∀ q,T q=so5 Z (q.foldl eI (cn.set i ⟨-2,y.sc⟩,cr)).2 po nf1 (q.foldl eI (cn.set i ⟨-2,y.sc⟩,cr)).1 post:=⟨_,fun zz=>rfl⟩
       have e0:so5 Z cr po nf1 (cn.set i ⟨-2,y.sc⟩) post=T []:=by rw [hT];rfl
       rw [e0,<- hT]
       refine' cW (v:=bX) (S:=T) ?ha2 ?hb2
       case ha2=>intro pre x post' hx;unfold bX;wtm_at "Ma"
       case hb2=>
        intro pre2 j post2 hx2;have hj:j<cn.length:=hyj j (by rw [hx2];simp)
        have hp2:pre2.length<=100:=by have:=congrArg H7 hx2;simp at this;omega
        have hE:=lJ pre2 (cn.set i ⟨-2,y.sc⟩,cr)
        rw [hT,hT,G9,Fk,J9]
        generalize pre2.foldl eI (cn.set i ⟨-2,y.sc⟩,cr)=c2 at *
        obtain ⟨dn,dr⟩:=c2;dsimp only at hE ⊢
        have hdl:dn.length=cn.length:=by rw [oV hE.1,Hh]
        have hxc:dn[j]? = some (dn[j]'(by omega)):=by simp
        generalize (dn[j]'(by omega))=x at hxc
        have eC:eI (dn,dr) j=(dn.set j ⟨x.np - 1,x.sc⟩,if x.np - 1==0 then dr++[j] else dr):=by unfold eI;rw [hxc]
        rw [eC]
        have' hx3:(dn.set j ⟨x.np - 1,x.sc⟩)[j]? = some ⟨x.np - 1,x.sc⟩:=by
         have:j<dn.length:=by omega
         simp [this]
        refine' aw.sub (aA ?u1 (aA (σ₁:=so5 Z dr po nf1 (dn.set j ⟨x.np - 1,x.sc⟩) post) ?u2 (aE (pB (c:=x.np - 1==0) ?u3 ?u4 ?u5)))) ?sb2
        case u1=>
         refine' aB (a:=.ref (Z.length+2+2 * j)) ?v ?t
         case v=>
          have' hjd:j<dn.length:=by omega
          refine' gE ?k1 ?k2 jL (ik hjd)
          case k1=>wtm_at "Me"
          case k2=>wtm_at "Me"
         case t=>wtm_at "Ma"
        case u2=>
         refine' aq.st (fJ ?o ?g ?v (OpG.of2 yt) ?ss) ?he
         case o=>wtm_at "Me"
         case g=>exact dD (fB hxc) (eN H) (iN H) rfl
         case v=>wtm_at "Me"
         case ss=>exact gY (fB hxc) (hz4 _) (eN H) (iN H) (by decide)
         case he=>exact lF hxc (x.np - 1)
        case u3=>
         refine' ai ?l3 ?r3 (OpG.of2 r8)
         case l3=>
          refine' bW ?k1 (dD (fB hx3) (eN H) (iN H) rfl)
          case k1=>wtm_at "Me"
         case r3=>wtm_at "Me"
        case u4=>
         intro hc
         rw [if_pos hc]
         have h2:=qU (Z:=Z) (rd:=dr) (po:=po) (nf:=nf1) (nds:=dn.set j ⟨x.np - 1,x.sc⟩) (post:=post);refine' aE (aq.st (bO (ba (i:=Z.length+2+2 * (dn.set j ⟨x.np - 1,x.sc⟩).length) (xs:=dr.map bX) (a:=bX j) ?ho ?hv ⟨_,h2⟩ h2 (hz4 _) ?hsz)) ?he)
         case ho=>wtm_at "Me"
         case hv=>unfold bX;wtm_at "Me"
         case hsz=>rw [EF,ER];have:=hE.2;omega
         case he=>
          have:=qD (Z:=Z) (rd:=dr) (po:=po) (nf:=nf1) (nds:=dn.set j ⟨x.np - 1,x.sc⟩) (post:=post) (rd':=dr++[j])
          rw [Ek] at this
          exact this
        case u5=>intro hc;rw [hc];exact aH
        case sb2=>wtm_at "Msub"
     case b6=>
      refine' aq.st (fJ ?o ?g ?v (OpG.of2 oO) ?ss) ?he
      case o=>wtm_at "Me"
      case g=>exact cI cO (bw H) (fd_ H (by kernel_rfl)) rfl
      case v=>wtm_at "Me"
      case ss=>exact bj cO hz0 (bw H) (fd_ H (by kernel_rfl)) (by show 4<1000;decide)
      case he=>exact lS
     case sb=>wtm_at "Msub"
end
theorem rH:IT (.type "StopIteration") (.type "BaseException")=pure true:=by rw [Gp];kernel_rfl
theorem la:IT (.type ((Manifest.find? "StopIteration").elim "type" fun x=>x.metatype)) (.type "tuple")=pure false:=by
 rw [show (Manifest.find? "StopIteration").elim "type" (fun x=>x.metatype)="type" by kernel_rfl,Gp];kernel_rfl
theorem uy:IT (.type "StopIteration") (.type "StopIteration")=pure true:=by rw [Gp];kernel_rfl
noncomputable def lX (nds:List Nd) (i:Nat):List Nat:=match nds[i]? with
 | some x=>x.sc
 | none=>[]
theorem oH {ex:List (Nat×Option Nat)} {v:Nat}:(ex.map fun (x:Nat×Option Nat)=>(x.1:Int)).contains (v:Int)=decide (v∈ex.map (·.1)):=by
 rw [FY]
 simp only [FN,EO,decide_eq_true_eq]
 exact ⟨fun ⟨x,h1,h2⟩=>⟨x,h1,by omega⟩,fun ⟨x,h1,h2⟩=>⟨x,h1,by omega⟩⟩
theorem jo {ex:List (Nat×Option Nat)} {q m:Nat} {y z:Option Nat} (h:ex[q]? = some (m,y)):((ex.set q (m,z)).map fun (x:Nat×Option Nat)=>(x.1:Int))=ex.map fun (x:Nat×Option Nat)=>(x.1:Int):=by
 have:=congrArg (fun l:List Nat=>l.map fun (n:Nat)=>(n:Int)) (ez (z:=z) h)
 simpa [ET,Function.comp_def] using this
theorem iP.st {C:Cx} {lv:Lv} {N:aF} {b:Stmt} {X:String} {ρ ρ₁:aO} {σ σ₁ σ₂:aC} (h:iP C lv N b ρ σ X ρ₁ σ₁) (e:σ₁=σ₂):iP C lv N b ρ σ X ρ₁ σ₂:=e▸h
section
variable {C:Cx} (H:bH C) {fz:List Nat} {σ:aC}
include H
theorem pf {Z post:aC} {rd:AV} {po nf:Int} {nds:List Nd} (hn:nds.length<=100) (hac:∀ i x,nds[i]? = some x->∀ j∈x.sc,i<j/\j<nds.length) (hfz:∀ i∈fz,i<Z.length) :
  aP C 2 fz (.ref 150) [.ref Z.length] [] (Z++(bd Z.length rd po nf nds++post)) (.dat .none) (Z++(bd Z.length rd po nf nds++post)):=by
 generalize hB:Z++(bd Z.length rd po nf nds++post)=B
 have hBl:Z.length+2<=B.length:=by rw [<- hB];simp [cR];omega
 have b1:B[Z.length]? = some (.inst 160 (me Z.length rd po nf)):=by rw [<- hB];exact dH
 have b2:B[Z.length+1]? = some (.dict (gu Z.length nds.length)):=by rw [<- hB];exact gG
 have b3:∀ j x,nds[j]? = some x->B[Z.length+2+2 * j]? = some (ce j x.np (Z.length+3+2 * j)):=fun j x h=>by rw [<- hB];exact eo h
 have b4:∀ j x,nds[j]? = some x->B[Z.length+3+2 * j]? = some (.list ((lX nds j).map bX)):=fun j x h=>by rw [<- hB];unfold lX;rw [h];exact ig h
 have hsc:∀ i,i<nds.length->∀ j∈lX nds i,i<j/\j<nds.length:=fun i hi j hj=>by
  have hx:nds[i]? = some nds[i]:=by simp
  unfold lX at hj;rw [hx] at hj
  exact hac i _ hx j hj
 clear hB
 generalize hkk:Z.length=k at *
 have hz:∀ i,i∉[k+1]++fz\/i<B.length:=fun i=>by
  by_cases h:i<B.length
  ·exact .inr h
  ·refine .inl fun q=>?_
   rcases EG.mp q with q | q
   ·rw [EJ] at q;omega
   ·have:=hfz i q;omega
 have hzz:∀ i,B.length<=i->i∉[k+1]++fz:=fun i h=>(hz i).resolve_right (by omega)
 refine' uJ (bH.look H rfl) rfl rfl ?hcd rfl rfl rfl rfl rfl rfl ?hok ?hfree ?hb ?bl ?st ?h
 case hcd=>exact bH.code H (by kernel_rfl)
 case hok=>wtm_at "Mnames"
 case hfree=>decide
 case hb=>(refine' bQ.args ?_;wtm_at "Mpeek")
 case bl=>wtm_at "Mblank"
 case st=>(simp only [E9,Ic,F8,FX,Fp];wtm_at "Mstall")
 case h=>
  dsimp only;refine' gW ?s1 (gW (σ₁:=B++[.list []]) ?s2 (gW (σ₁:=B++[.list [],.list []]) ?s3 (gW (σ₁:=B++[.list [],.list [],.set []]) ?s4 (gW (σ₁:=dfS B k [] []) ?s5 (xl (E:=fun ex=>dfS B k ex []) ?s6 fun ex=>⟨_,(.list _ :: .list _ :: .set _ :: .dict _ :: dO B.length k 0 ex),a8 (aT ix)⟩)))))
  case s1=>
   refine' aB ?v ?t
   case v=>wtm_at "Me"
   case t=>wtm_at "Ma"
  case s2=>
   refine' aB ?v ?t
   case v=>
    refine' cK ?w ?w2
    case w=>wtm_at "Ml"
    case w2=>decide
   case t=>wtm_at "Ma"
  case s3=>
   refine' aB (a:=.ref (B.length+1)) (σ₁:=B++[.list [],.list []]) ?v ?t
   case v=>
    refine' aG.st (aG.of (cK ?w ?w2) ?w3) ?w4
    case w=>wtm_at "Ml"
    case w2=>decide
    case w3=>simp
    case w4=>simp
   case t=>wtm_at "Ma"
  case s4=>
   refine' aB (a:=.ref (B.length+2)) (σ₁:=B++[.list [],.list [],.set []]) ?v ?t
   case v=>
    refine' aG.st (aG.of (yT ?w) ?w3) ?w4
    case w=>wtm_at "Me"
    case w3=>simp
    case w4=>simp
   case t=>wtm_at "Ma"
  case s5=>
   refine' aB (a:=.ref (B.length+3)) (σ₁:=dfS B k [] []) ?v ?t
   case v=>
    refine' aG.st (aG.of mr ?w3) ?w4
    case w3=>simp
    case w4=>simp [dfS,dfG,dM,dO]
   case t=>wtm_at "Ma"
  case s6=>
   obtain ⟨R,hR⟩:∃ R:Nat->aO,∀ v,R v=[some (.ref k),some (.ref (k+1)),some (.ref B.length),some (.ref (B.length+1)),some (.ref (B.length+2)),some (.ref (B.length+3)),some (.dat (.int (v:Int))),none,none,none,none]:=⟨_,fun zz=>rfl⟩
   have' I0:eZ nds.length (lX nds) [] []:=⟨.nil,jI,jI,.nil,by
    show 0+unv _ []<=_
    unfold unv;have:=FL (fun i=>!(([]:List (Nat×Option Nat)).map (·.1)).contains i) (EQ nds.length)
    rw [FV] at this;omega⟩
   refine' wH (ls:=[k+1]) (E:=fun ex=>dfS B k ex []) ?hi ?hf
   case hi=>
    refine' uV ?k1 (gh b2) (by with_unfolding_all rfl) (by with_unfolding_all rfl)
    case k1=>wtm_at "Me"
   case hf=>
    rw [show (gu k nds.length).map (fun p=>AV.dat (.int p.1))=(EQ nds.length).map bX by unfold gu;rw [ET];rfl]
    refine' zP (R:=R) (n:=nds.length) (sc:=lX nds) (D:=dfS B k) ?fsub ?ftg ?fseen ?funs ?fout (EQ nds.length) (fun v hv=>Ef.mp hv) [] I0
    case ftg=>intro v ex;rw [hR];unfold bX;wtm_at "Ma"
    case fsub=>intro v;rw [hR];wtm_at "Msub"
    case fseen=>
     intro v ex I hv
     rw [hR]
     refine' bL (aY.of (ai ?l ?r (jD uY)) ?e) (cB yZ (by intro q;cases q))
     case l=>wtm_at "Me"
     case r=>wtm_at "Me"
     case e=>rw [oH];exact decide_eq_true hv
    case funs=>
     intro v ex I hv
     rw [hR]
     refine' aN (aY.of (ai ?l ?r (jD uY)) ?e) aH
     case l=>wtm_at "Me"
     case r=>wtm_at "Me"
     case e=>rw [oH];exact decide_eq_false hv
    case fout=>
     intro v ex I hv;refine' yn (R:=R) (n:=nds.length) (sc:=lX nds) (D:=dfS B k) hsc ?otrue ?oold ?onew ?oin (unv nds.length ex) (rest (lX nds) ex []) v ex [] rfl rfl I hv jI
     case otrue=>intro v ex st;rw [hR];exact bV fV dW (by intro _;with_unfolding_all rfl)
     case oold=>
      intro v ex st I hv hlt
      rw [hR]
      refine' bL (aY.of (ai ?l ?r (jD uY)) ?e) (aE (aN (aY.of (ai ?l2 ?r2 (tq Ai)) ?e2) aH))
      case l=>wtm_at "Me"
      case r=>wtm_at "Me"
      case e=>rw [oH];exact decide_eq_true hv
      case l2=>wtm_at "Me"
      case r2=>wtm_at "Me"
      case e2=>rw [(sS fun y hy=>FG (hlt y hy)).1];rfl
     case onew=>
      intro v ex st I hvn hv hlt
      rw [hR]
      have hxv:nds[v]? = some nds[v]:=by simp
      have hel:=I.cnt;have hstl:=I.stl;have hks:(ex.map fun (x:Nat×Option Nat)=>(x.1:Int)).contains (v:Int)=false:=by rw [oH];exact decide_eq_false hv
      have heL:(dO B.length k 0 ex).length=2 * ex.length:=vb ..;have' hnost:∀ y∈st,y.1≠v:=fun y hy=>FG (hlt y hy)
      have hdl:(dM st).length<=1000:=by rw [or];omega
      refine' aN (aY.of (ai ?l ?r (jD uY)) ?e) (aA (σ₁:=dfG B (.list (st.map fun (x:Nat×Nat)=>bX x.1)) (.list (st.map fun (x:Nat×Nat)=>AV.ref (B.length+5+2 * x.2))) (.set ((ex++[(v,some 0)]).map fun (x:Nat×Option Nat)=>(x.1:Int))) (.dict (dM st)) (dO B.length k 0 ex)) ?o1 (aA (σ₁:=dfG B (.list (st.map fun (x:Nat×Nat)=>bX x.1)) (.list ((st++[(v,ex.length)]).map fun (x:Nat×Nat)=>AV.ref (B.length+5+2 * x.2))) (.set ((ex++[(v,some 0)]).map fun (x:Nat×Option Nat)=>(x.1:Int))) (.dict (dM st)) (dO B.length k 0 (ex++[(v,some 0)]))) ?o2 (aA (σ₁:=dfG B (.list (st.map fun (x:Nat×Nat)=>bX x.1)) (.list ((st++[(v,ex.length)]).map fun (x:Nat×Nat)=>AV.ref (B.length+5+2 * x.2))) (.set ((ex++[(v,some 0)]).map fun (x:Nat×Option Nat)=>(x.1:Int))) (.dict (dM (st++[(v,ex.length)]))) (dO B.length k 0 (ex++[(v,some 0)]))) ?o3 (aE ?o4))))
      case l=>wtm_at "Me"
      case r=>wtm_at "Me"
      case e=>exact hks
      case o1=>
       refine' aq.st (bO (ed ?ho ?hl (vV uY) PySem.F.plainAttrs_set PySem.F.slot_set_add PySem.F.type_set_add (A7 (k:=(v:Int)) uY (hzz _ (EP _ _)) hks ?hsz) (by intro _;with_unfolding_all rfl) (by intro _;with_unfolding_all rfl) (by with_unfolding_all rfl) (by with_unfolding_all rfl))) ?he
       case ho=>wtm_at "Me"
       case hl=>wtm_at "Ml"
       case hsz=>rw [EF];omega
       case he=>simp only [yg,Ek,E9,Ic]
      case o2=>
       refine' aq.st (bO (ba (i:=B.length+1) (σ₂:=dfG B (.list (st.map fun (x:Nat×Nat)=>bX x.1)) (.list (st.map fun (x:Nat×Nat)=>AV.ref (B.length+5+2 * x.2))) (.set ((ex++[(v,some 0)]).map fun (x:Nat×Option Nat)=>(x.1:Int))) (.dict (dM st)) (dO B.length k 0 (ex++[(v,some 0)]))) (xs:=st.map fun (x:Nat×Nat)=>AV.ref (B.length+5+2 * x.2)) (a:=.ref (B.length+5+2 * ex.length)) ?ho ?hv ⟨_,wK⟩ wK (hzz _ (EP _ _)) ?hsz)) ?he
       case ho=>wtm_at "Me"
       case hsz=>rw [EF,ER];omega
       case he=>simp only [si,Ek,E9,Ic]
       case hv=>
        refine' aG.st (aG.of (uu (i:=B.length+4+2 * ex.length) (l:=k+3+2 * v) (k:=0) (σ₁:=dfG B (.list (st.map fun (x:Nat×Nat)=>bX x.1)) (.list (st.map fun (x:Nat×Nat)=>AV.ref (B.length+5+2 * x.2))) (.set ((ex++[(v,some 0)]).map fun (x:Nat×Option Nat)=>(x.1:Int))) (.dict (dM st)) (dO B.length k 0 ex++[.iter (k+3+2 * v) 0])) ?hi ?hx) ?w3) ?w4
        case hi=>
         refine' aG.st (aG.of (uN ?f ?l2 (yx (gh (b4 v _ hxv))) (by with_unfolding_all rfl)) ?w5) ?w6
         case f=>wtm_at "Me"
         case l2=>
          refine' bF (bW (gE ?k1 ?k2 (gh b2) (ik hvn)) (dD (gh (b3 v _ hxv)) (eN H) (sO H) rfl)) bR (by with_unfolding_all rfl)
          case k1=>wtm_at "Me"
          case k2=>wtm_at "Me"
         case w5=>rw [vt,heL]
         case w6=>rw [v8]
        case hx=>rw [wV,<- heL,EY]
        case w3=>rw [vt,EX,heL,Ei];congr 1;omega
        case w4=>rw [v8,wW,FK,HK];rfl
      case o3=>
       refine' aq.st (aB (a:=bX st.length) ?v (iS ?k1 ?k2 Ai (hzz _ (EP _ _)) hdl)) ?he
       case v=>
        have hzl:((((st.map fun (x:Nat×Nat)=>bX x.1).length:Nat):Int))<2 ^ 63:=by rw [EF];omega
        refine' aG.of (cu ?f ?l2 (oG yR hzl) (by with_unfolding_all rfl)) ?w
        case f=>wtm_at "Me"
        case l2=>wtm_at "Ml"
        case w=>rw [EF];rfl
       case k1=>wtm_at "Me"
       case k2=>wtm_at "Me"
       case he=>rw [sn,x9 hnost]
      case o4=>
       refine' aq.st (bO (ba (i:=B.length) (xs:=st.map fun (x:Nat×Nat)=>bX x.1) (a:=bX v) ?ho ?hv ⟨_,yR⟩ yR (hzz _ (EK _)) ?hsz)) ?he
       case ho=>wtm_at "Me"
       case hv=>unfold bX;wtm_at "Me"
       case hsz=>rw [EF,ER];omega
       case he=>simp only [dfS,sV,Ek,E9,Ic]
     case oin=>
      intro v ex st I;refine' Al (R:=R) (n:=nds.length) (sc:=lX nds) (D:=dfS B k) hsc v ?itop ?inext ?ipop ?iels st.length ex st rfl I
      case itop=>
       intro v ex st I
       rw [hR]
       refine' aY.of (tj ?l yR ?z (by intro _;with_unfolding_all rfl)) ?e
       case l=>wtm_at "Me"
       case z=>rw [EF];have:=I.stl;omega
       case e=>cases st<;>rfl
      case iels=>intro v ex;rw [hR];exact cB gx (by intro q;cases q)
      case inext=>
       intro v ex st m q p v' I hq hv
       rw [hR,hR]
       have hmn:m<nds.length:=I.lt _ (EN hq);have' hxm:nds[m]? = some nds[m]:=by simp
       obtain ⟨g1,g2⟩:=qP B.length k 0 ex q _ hq
       rw [HK] at g2
       have' hstl:=I.stl
       rw [EX,Ei] at hstl
       have hq1:(dfS B k ex (st++[(m,q)]))[B.length+1]? = some (.list ((st.map fun (x:Nat×Nat)=>AV.ref (B.length+5+2 * x.2))++[.ref (B.length+5+2 * q)])):=by rw [wK,Ek];rfl
       refine' aE (jm (aA ?a1 (cB gx (by intro q;cases q))) (by intro q;cases q))
       case a1=>
        refine' aq.st (aB (a:=bX v') (na (n:=B.length+5+2 * q) (i:=B.length+4+2 * q) (l:=k+3+2 * m) (k:=p) (xs:=(lX nds m).map bX) ?f ?hn ?hi ?hl ?hx (hzz _ (by omega))) ?t) ?he
        case f=>
         refine' mj (xs:=st.map fun (x:Nat×Nat)=>AV.ref (B.length+5+2 * x.2)) ?k1 ?k2 hq1 ?hz
         case k1=>wtm_at "Me"
         case k2=>wtm_at "Me"
         case hz=>rw [EF];omega
        case hn=>rw [show B.length+5+2 * q=B.length+4+(2 * q+1) by omega];exact wV.trans g2
        case hi=>exact wV.trans g1
        case hl=>exact gh (b4 m _ hxm)
        case hx=>rw [Em,hv];rfl
        case t=>unfold bX;wtm_at "Ma"
        case he=>
         rw [sy]
         have e1:=qY B.length k (some (p+1)) 0 ex q _ hq;dsimp only [itO] at e1
         rw [e1];simp only [dfS,jo hq]
      case ipop=>
       intro v ex st m q p I hq hv
       rw [hR]
       have hmn:m<nds.length:=I.lt _ (EN hq);have' hxm:nds[m]? = some nds[m]:=by simp
       obtain ⟨g1,g2⟩:=qP B.length k 0 ex q _ hq
       rw [HK] at g2
       have' hstl:=I.stl
       rw [EX,Ei] at hstl
       obtain ⟨_,hlt⟩:=pL I.inc;have' hnost:∀ y∈st,y.1≠m:=fun y hy=>FG (hlt y hy)
       obtain ⟨d1,d2⟩:=yE (q:=q) hnost;have hdl2:(dM (st++[(m,q)])).length<=1000:=by rw [or,EX,Ei];omega
       have hq1:(dfS B k ex (st++[(m,q)]))[B.length+1]? = some (.list ((st.map fun (x:Nat×Nat)=>AV.ref (B.length+5+2 * x.2))++[.ref (B.length+5+2 * q)])):=by rw [wK,Ek];rfl
       refine' aE (ju (X := "StopIteration") (T := "StopIteration") (σ₁:=dfG B (.list ((st++[(m,q)]).map fun (x:Nat×Nat)=>bX x.1)) (.list ((st++[(m,q)]).map fun (x:Nat×Nat)=>AV.ref (B.length+5+2 * x.2))) (.set (ex.map fun (x:Nat×Option Nat)=>(x.1:Int))) (.dict (dM (st++[(m,q)]))) (dO B.length k 0 (ex.set q (m,none)))) (eh ?a1) ?ht rH la uy (aA (σ₁:=dfG B (.list (st.map fun (x:Nat×Nat)=>bX x.1)) (.list ((st++[(m,q)]).map fun (x:Nat×Nat)=>AV.ref (B.length+5+2 * x.2))) (.set (ex.map fun (x:Nat×Option Nat)=>(x.1:Int))) (.dict (dM st)) (dO B.length k 0 (ex.set q (m,none)))) ?b1 (aE ?b2)))
       case a1=>
        refine' iP.st (mx (qL (n:=B.length+5+2 * q) (i:=B.length+4+2 * q) (l:=k+3+2 * m) (k:=p) (xs:=(lX nds m).map bX) ?f ?hn ?hi ?hl ?hx (hzz _ (by omega)) (by with_unfolding_all rfl) (by intro _;with_unfolding_all rfl))) ?he
        case f=>
         refine' mj (xs:=st.map fun (x:Nat×Nat)=>AV.ref (B.length+5+2 * x.2)) ?k1 ?k2 hq1 ?hz
         case k1=>wtm_at "Me"
         case k2=>wtm_at "Me"
         case hz=>rw [EF];omega
        case hn=>rw [show B.length+5+2 * q=B.length+4+(2 * q+1) by omega];exact wV.trans g2
        case hi=>exact wV.trans g1
        case hl=>exact gh (b4 m _ hxm)
        case hx=>rw [Em,hv];rfl
        case he=>
         rw [sy]
         have e1:=qY B.length k none 0 ex q _ hq;dsimp only [itO] at e1
         rw [e1]
       case ht=>wtm_at "Me"
       case b1=>
        refine' aq.st (pe (a:=bX st.length) (k:=(m:Int)) (σ₂:=dfG B (.list (st.map fun (x:Nat×Nat)=>bX x.1)) (.list ((st++[(m,q)]).map fun (x:Nat×Nat)=>AV.ref (B.length+5+2 * x.2))) (.set (ex.map fun (x:Nat×Option Nat)=>(x.1:Int))) (.dict (dM (st++[(m,q)]))) (dO B.length k 0 (ex.set q (m,none)))) ?k1 ?k2 Ai (hzz _ (EP _ _)) d2 hdl2) ?he
        case k1=>wtm_at "Me"
        case k2=>
         have hx0:(dfG B (.list ((st++[(m,q)]).map fun (x:Nat×Nat)=>bX x.1)) (.list ((st++[(m,q)]).map fun (x:Nat×Nat)=>AV.ref (B.length+5+2 * x.2))) (.set (ex.map fun (x:Nat×Option Nat)=>(x.1:Int))) (.dict (dM (st++[(m,q)]))) (dO B.length k 0 (ex.set q (m,none))))[B.length]? = some (.list (st.map (fun (x:Nat×Nat)=>bX x.1)++[bX m])):=yR.trans (by rw [Ek];rfl)
         refine' aG.st (j0 ?ho (dJ hx0) PySem.F.plainAttrs_list PySem.F.slot_list_pop PySem.F.type_list_pop (vf hx0 (hzz _ (EK _)) ?hsz) (by intro _;with_unfolding_all rfl) (by with_unfolding_all rfl)) ?w
         case ho=>wtm_at "Me"
         case hsz=>rw [EF,ER];omega
         case w=>rw [sV]
        case he=>rw [sn,d1]
       case b2=>
        have hx1:(dfG B (.list (st.map fun (x:Nat×Nat)=>bX x.1)) (.list ((st++[(m,q)]).map fun (x:Nat×Nat)=>AV.ref (B.length+5+2 * x.2))) (.set (ex.map fun (x:Nat×Option Nat)=>(x.1:Int))) (.dict (dM st)) (dO B.length k 0 (ex.set q (m,none))))[B.length+1]? = some (.list ((st.map fun (x:Nat×Nat)=>AV.ref (B.length+5+2 * x.2))++[.ref (B.length+5+2 * q)])):=wK.trans (by rw [Ek];rfl)
        refine' aq.st (bO (j0 ?ho (dJ hx1) PySem.F.plainAttrs_list PySem.F.slot_list_pop PySem.F.type_list_pop (vf hx1 (hzz _ (EP _ _)) ?hsz) (by intro _;with_unfolding_all rfl) (by with_unfolding_all rfl))) ?he
        case ho=>wtm_at "Me"
        case hsz=>rw [EF,ER];omega
        case he=>rw [si];show _=dfG _ _ _ _ _ _;rw [jo hq]
end
noncomputable def p7 (nds:List Nd) (j:Nat):Bool:=match nds[j]? with
 | some x=>decide (x.np=0)
 | none=>false
noncomputable def cC (nds:List Nd):List Nat:=(EQ nds.length).filter (p7 nds)
section
variable {C:Cx} (H:bH C) {fz:List Nat} {σ:aC}
include H
theorem m4 {Z:aC} {po nf:Int} {nds:List Nd} (hn:nds.length<=100) (hac:∀ i x,nds[i]? = some x->∀ j∈x.sc,i<j/\j<nds.length) (hfz:∀ i∈fz,i<Z.length) :
  aP C 3 fz (.ref 115) [.ref Z.length] [] (Z++(bd Z.length (.dat .none) po nf nds++[])) (.dat .none) (so5 Z (cC nds) po nf nds []):=by
 have' hz0:Z.length∉fz:=fun h=>absurd (hfz _ h) (E5 _)
 have hlen:(Z++(bd Z.length (.dat .none) po nf nds++[])).length=Z.length+2+2 * nds.length:=by rw [FH,EX,cR];omega
 have hrl:(cC nds).length<=100:=by
  have:=FL (p7 nds) (EQ nds.length)
  rw [FV] at this
  exact EH this hn
 wtm_at "Dp"
 case hr=>exact .nxt
 case h=>
  dsimp only;refine' aA (aN (aY.of ?t0 ?d0) aH) (aA (σ₁:=so5 Z (cC nds) po nf nds []) ?s1 (aA (σ₁:=so5 Z (cC nds) po nf nds []) ?s2 (aE ?s3)))
  case t0=>wtm_at "Mt"
  case d0=>decide
  case s1=>
   refine' aq.st (aB (a:=.ref (Z.length+2+2 * nds.length)) (σ₁:=Z++(bd Z.length (.dat .none) po nf nds++[])++[.list ((cC nds).map bX)]) ?v ?t) ?he
   case v=>
    refine' aG.st (aG.of (ud ?ck ?hi ?hfr ?hcl ?hbl ?hc ?hz) (by rw [hlen])) (by rw [zr])
    case ck=>wtm_at "Mcompok"
    case hi=>
     refine' pC ?k1 gG (by intro _;with_unfolding_all rfl) (by with_unfolding_all rfl) (by with_unfolding_all rfl) (by with_unfolding_all rfl)
     case k1=>wtm_at "Me"
    case hfr=>wtm_at "Mfrees"
    case hcl=>wtm_at "Mclos"
    case hbl=>wtm_at "Mblank"
    case hz=>rw [EF,ER];omega
    case hc=>
     rw [show (gu Z.length nds.length).map (·.2)=(EQ nds.length).map fun (j:Nat)=>AV.ref (Z.length+2+2 * j) by unfold gu;rw [ET];rfl]
     refine' cT ?ha ?ht ?hee ?hs
     case ha=>intro a ha;wtm_at "Ma"
     case hs=>intro a ha;wtm_at "Msub"
     case hee=>
      intro a ha _;have' hxa:nds[a]? = some (nds[a]'(Ef.mp ha)):=by simp
      refine' bW ?k1 (dD (eo hxa) (eN H) (sg H) rfl)
      case k1=>wtm_at "Me"
     case ht=>
      intro a ha;have hxa:nds[a]? = some (nds[a]'(Ef.mp ha)):=by simp
      refine' cm (aY.of (ai (bW ?k1 (dD (eo hxa) (eN H) (iN H) rfl)) ?r (OpG.of2 r8)) ?e)
      case k1=>wtm_at "Me"
      case r=>wtm_at "Me"
      case e=>unfold p7;rw [hxa];rfl
   case t=>
    refine' b8 ?k1 ?k2
    case k1=>wtm_at "Me"
    case k2=>exact bj (by rw [FK,FK,EZ];exact dH) hz0 (bw H) (fd_ H (by kernel_rfl)) (by show 4<1000;decide)
   case he=>rw [FK,FK,EZ];exact lQ
  case s2=>
   refine' aB (a:=.dat .none) ?v ?t
   case v=>
    have' cf:aP C 2 fz (.ref 150) [.ref Z.length] [] (so5 Z (cC nds) po nf nds []) (.dat .none) (so5 Z (cC nds) po nf nds []):=pf H (fz:=fz) (Z:=Z) (rd:=.ref (Z.length+2+2 * nds.length)) (po:=po) (nf:=nf) (post:=[.list ((cC nds).map bX)]) hn hac hfz;refine' bC ?ho (bB cO (bw H) (fd_ H (by kernel_rfl)) (fn_ H (by kernel_rfl)) rfl) (kp_ H (by kernel_rfl)) b7 cf (by show 2<=2;decide) rfl (by intro _;exact ⟨_,rfl⟩)
    case ho=>wtm_at "Me"
   case t=>wtm_at "Ma"
  case s3=>
   refine' aN (bV ?k1 kS (by intro _;with_unfolding_all rfl)) aH
   case k1=>wtm_at "Me"
end
set_option tactic.hygienic true in
theorem vo {n:Nat} {l:List Nd} {q p:Nat}:(eW n l q)[p]? = l[p]?.map fun x=>if p=q then ⟨x.np,x.sc++[n]⟩ else x:=by
 unfold eW
 split
 ·rename_i y hy
  by_cases h:p=q
  ·subst h;rw [F9 (EL.mp hy).1,hy];simp
  ·rw [Fm (Ne.symm h)];simp [h]
 ·rename_i hy
  by_cases h:p=q
  ·subst h;rw [hy];rfl
  ·simp [h]
theorem tX {n:Nat}:∀ (ps:List Nat) (l:List Nd) (p:Nat),ps.Nodup->(ps.foldl (eW n) l)[p]? = l[p]?.map fun x=>if p∈ps then ⟨x.np,x.sc++[n]⟩ else x:=by
 intro ps
 induction ps with
 | nil=>intro l p _;simp
 | cons q ps ih0=>
  intro l p h;obtain ⟨h1,h2⟩:=GI.mp h
  rw [Fk,ih0 _ p h2,vo,Kg]
  congr 1
  funext x
  by_cases e:p=q
  ·subst e;simp [h1]
  ·simp [e]
set_option tactic.hygienic true in
theorem xJ {v:Int} {l:List Nd} {q p:Nat}:(bN v l q)[p]? = l[p]?.map fun x=>if p=q then ⟨v,x.sc⟩ else x:=by
 unfold bN
 split
 ·rename_i y hy
  by_cases h:p=q
  ·subst h;rw [F9 (EL.mp hy).1,hy];simp
  ·rw [Fm (Ne.symm h)];simp [h]
 ·rename_i hy
  by_cases h:p=q
  ·subst h;rw [hy];rfl
  ·simp [h]
theorem u0 {v:Int}:∀ (ps:List Nat) (l:List Nd) (p:Nat),(ps.foldl (bN v) l)[p]? = l[p]?.map fun x=>if p∈ps then ⟨v,x.sc⟩ else x:=by
 intro ps
 induction ps with
 | nil=>intro l p;simp
 | cons q ps ih0=>
  intro l p
  rw [Fk,ih0 _ p,xJ,Kg]
  congr 1
  funext x
  by_cases e:p=q
  ·subst e;simp
  ·simp [e]
noncomputable def is1 (l:List Nd) (p:Nat):Bool:=match l[p]? with
 | some x=>x.np - 1==0
 | none=>false
set_option tactic.hygienic true in
theorem sk {l:List Nd} {r:List Nat} {q p:Nat}:(eI (l,r) q).1[p]? = (l[p]?.map fun x=>if p=q then ⟨x.np - 1,x.sc⟩ else x):=by
 unfold eI
 split
 ·rename_i y hy
  dsimp only at hy ⊢
  by_cases h:p=q
  ·subst h;rw [F9 (EL.mp hy).1,hy];simp
  ·rw [Fm (Ne.symm h)];simp [h]
 ·rename_i hy
  dsimp only at hy ⊢
  by_cases h:p=q
  ·subst h;rw [hy];rfl
  ·simp [h]
set_option tactic.hygienic true in
theorem z8 {l:List Nd} {r:List Nat} {q:Nat}:(eI (l,r) q).2=r++[q].filter (is1 l):=by
 unfold eI is1
 split
 ·rename_i y hy
  dsimp only at hy ⊢
  simp only [Ex,KY,hy]
  split<;>simp
 ·rename_i hy
  dsimp only at hy ⊢
  simp [hy]
theorem vk:∀ (js:List Nat) (l:List Nd) (r:List Nat),js.Nodup->(∀ p,(js.foldl eI (l,r)).1[p]? = l[p]?.map fun x=>if p∈js then ⟨x.np - 1,x.sc⟩ else x)/\(js.foldl eI (l,r)).2=r++js.filter (is1 l):=by
 intro js
 induction js with
 | nil=>intro l r _;exact ⟨fun p=>by simp,by simp⟩
 | cons q js ih0=>
  intro l r h;obtain ⟨h1,h2⟩:=GI.mp h;obtain ⟨i1,i2⟩:=ih0 (eI (l,r) q).1 (eI (l,r) q).2 h2
  rw [Fk]
  refine ⟨fun p=>?_,?_⟩
  ·rw [i1 p,sk,Kg]
   congr 1
   funext x
   by_cases e:p=q
   ·subst e;simp [h1]
   ·simp [e]
  ·rw [i2,z8,FK,show q :: js=[q]++js from rfl,IP]
   congr 2
   refine GS fun p hp=>?_
   have:p≠q:=fun e=>h1 (e▸hp)
   unfold is1
   rw [sk]
   cases l[p]? with
   | none=>rfl
   | some x=>simp [this]
theorem dT {α:Type} {P:α->Bool} {l:List α} (h:l.Nodup):(l.filter P).Nodup:=h.sublist List.filter_sublist
noncomputable def ch (n:Nat) (pr:Nat->List Nat) (p:Nat):List Nat:=(EQ n).filter fun q=>(pr q).contains p
noncomputable def kF (pr:Nat->List Nat) (D O:Nat->Bool) (p:Nat):Int:=if D p then -2 else if O p then -1 else (((pr p).filter fun q=>!D q).length:Nat)
structure SJ (n:Nat) (pr:Nat->List Nat) (D O:Nat->Bool) (nds:List Nd) (rd:List Nat):Prop where
 len:nds.length=n
 at_:∀ p,p<n->nds[p]? = some ⟨kF pr D O p,ch n pr p⟩
 rdn:rd.Nodup
 rd_:∀ p,p∈rd↔p<n/\D p=false/\O p=false/\∀ q∈pr p,D q=true
 cl:∀ p,(D p=true\/O p=true)->p<n/\∀ q∈pr p,D q=true
 dj:∀ p,D p=true->O p=false
structure Prd (pr:Nat->List Nat):Prop where
 nod:∀ p,(pr p).Nodup
 lt:∀ p,∀ q∈pr p,q<p
theorem jk {n:Nat} {pr:Nat->List Nat} {p:Nat}:(ch n pr p).Nodup:=dT KI
theorem cj {n:Nat} {pr:Nat->List Nat} {p q:Nat}:q∈ch n pr p↔q<n/\p∈pr q:=by unfold ch;simp
theorem ic {P:Nat->Bool} {v:Nat} (hv:P v=true):∀ (l:List Nat),l.Nodup->v∈l->(l.filter fun i=>P i && !(i==v)).length+1=(l.filter P).length:=by
 intro l
 induction l with
 | nil=>intro _ h;exact absurd h Fe
 | cons x l ih0=>
  intro hn h;obtain ⟨h1,h2⟩:=GI.mp hn
  rw [Ex,Ex]
  by_cases q:x=v
  ·subst q
   have:l.filter (fun i=>P i && !(i==x))=l.filter P:=GS fun i hi=>by
    have:i≠x:=fun e=>h1 (e▸hi)
    simp [this]
   simp [hv,this]
  ·have' h':v∈l:=(EV.mp h).resolve_left (Ne.symm q)
   have ih:=ih0 h2 h';have hq:(x==v)=false:=by simpa using q
   cases hp:P x<;>simp [hq]<;>omega
section
variable {n:Nat} {pr:Nat->List Nat} {D O:Nat->Bool} {nds:List Nd} {rd:List Nat} {i:Nat}
theorem SJ.out (h:SJ n pr D O nds rd):SJ n pr D (fun p=>O p || rd.contains p) (rd.foldl (bN (-1)) nds) [] where
 len:=(eM _ _ _).trans h.len
 at_:=fun p hp=>by
  rw [u0,h.at_ p hp]
  show some _=some _
  congr 1
  unfold kF
  by_cases hr:p∈rd
  ·obtain ⟨_,a,b,_⟩:=(h.rd_ p).mp hr
   simp [hr,a]
  ·simp [hr]
 rdn:=.nil
 rd_:=fun p=>by
  refine ⟨fun q=>absurd q Fe,fun qq1=>?_⟩
  obtain ⟨a,b,c,d⟩:=qq1
  simp only [Kh] at c
  have:=(h.rd_ p).mpr ⟨a,b,c.1,d⟩
  simp [this] at c
 cl:=fun p hp=>by
  simp only [Gy,FN] at hp
  rcases hp with hp | hp | hp
  ·exact h.cl p (.inl hp)
  ·exact h.cl p (.inr hp)
  ·obtain ⟨a,_,_,b⟩:=(h.rd_ p).mp hp
   exact ⟨a,b⟩
 dj:=fun p hp=>by
  have:p∉rd:=fun q=>by
   have:=((h.rd_ p).mp q).2.1
   rw [hp] at this;cases this
  simp [h.dj p hp,this]
theorem SJ.np1 (h:SJ n pr D O nds rd) (hi:O i=true):∃ y,nds[i]? = some y/\y.np=-1:=by
 refine ⟨_,h.at_ i (h.cl i (.inr hi)).1,?_⟩
 have:D i=false:=by
  cases q:D i with
  | false=>rfl
  | true=>have:=h.dj i q;rw [hi] at this;cases this
 simp [kF,this,hi]
theorem SJ.done (P:Prd pr) (h:SJ n pr D O nds rd) (hi:O i=true):SJ n pr (fun p=>D p || p==i) (fun p=>O p && !(p==i)) (av (nds,rd) i).1 (av (nds,rd) i).2:=by
 obtain ⟨hin,hipr⟩:=h.cl i (.inr hi)
 have hDi:D i=false:=by
  cases q:D i with
  | false=>rfl
  | true=>have:=h.dj i q;rw [hi] at this;cases this
 have hx:=h.at_ i hin
 have e:av (nds,rd) i=(ch n pr i).foldl eI (nds.set i ⟨-2,ch n pr i⟩,rd):=by unfold av;dsimp only;rw [hx]
 obtain ⟨d1,d2⟩:=vk (ch n pr i) (nds.set i ⟨-2,ch n pr i⟩) rd jk
 have hset:∀ p,p≠i->(nds.set i ⟨-2,ch n pr i⟩)[p]? = nds[p]?:=fun p hp=>Fm (Ne.symm hp)
 have hni:i∉ch n pr i:=fun q=>E5 _ (P.lt _ _ (cj.mp q).2)
 have hfol:∀ p,i∈pr p->D p=false/\O p=false/\p≠i:=fun p hp=>by
  refine ⟨?_,?_,?_⟩
  ·cases q:D p with
   | false=>rfl
   | true=>have:=(h.cl p (.inl q)).2 i hp;rw [hDi] at this;cases this
  ·cases q:O p with
   | false=>rfl
   | true=>have:=(h.cl p (.inr q)).2 i hp;rw [hDi] at this;cases this
  ·rintro rfl;exact E5 _ (P.lt _ _ hp)
 have hcnt:∀ p,i∈pr p->((pr p).filter fun q=>!(D q || q==i)).length+1=((pr p).filter fun q=>!D q).length:=fun p hp=>by
  have:=ic (P:=fun q=>!D q) (v:=i) (by simp [hDi]) (pr p) (P.nod p) hp
  rw [<- this]
  congr 2
  refine GS fun q zz=>?_
  cases D q<;>rfl
 have' hcnt0:∀ p,i∉pr p->((pr p).filter fun q=>!(D q || q==i))=((pr p).filter fun q=>!D q):=fun p hp=>GS fun q hq=>by
  have:q≠i:=fun e=>hp (e▸hq)
  simp [this]
 have his1:∀ p,p∈ch n pr i->(is1 (nds.set i ⟨-2,ch n pr i⟩) p=true↔∀ q∈pr p,(D q || q==i)=true):=fun p hp=>by
  obtain ⟨hpn,hpi⟩:=cj.mp hp;obtain ⟨a,b,c⟩:=hfol p hpi;unfold is1
  rw [hset p c,h.at_ p hpn]
  have e1:kF pr D O p=(((pr p).filter fun q=>!D q).length:Nat):=by unfold kF;rw [a,b];rfl
  have' e2:=hcnt p hpi;dsimp only
  rw [e1,<- e2]
  have' e3:((((pr p).filter fun q=>!(D q || q==i)).length+1:Nat):Int) - 1=(((pr p).filter fun q=>!(D q || q==i)).length:Nat):=by omega
  rw [e3]
  rw [show ((((pr p).filter fun q=>!(D q || q==i)).length:Nat):Int)==0↔((pr p).filter fun q=>!(D q || q==i)).length=0 by simp]
  rw [Gw,KQ]
  refine forall_congr' fun q=>forall_congr' fun zz=>?_
  cases D q<;>simp
 rw [e,d2]
 refine ⟨?_,fun p hp=>?_,?_,fun p=>?_,fun p hp=>?_,fun p hp=>?_⟩
 ·have:=oV (lJ (ch n pr i) (nds.set i ⟨-2,ch n pr i⟩,rd)).1
  rw [this];simpa using h.len
 ·rw [d1]
  by_cases hpi:p=i
  ·subst hpi
   rw [F9 (EL.mp hx).1]
   simp [hni,kF]
  ·rw [hset p hpi,h.at_ p hp]
   show some _=some _
   congr 1
   by_cases hf:i∈pr p
   ·obtain ⟨a,b,c⟩:=hfol p hf
    have' e2:=hcnt p hf
    show (if p∈ch n pr i then _ else _)=_
    rw [if_pos (cj.mpr ⟨hp,hf⟩)]
    have e1:kF pr D O p=(((pr p).filter fun q=>!D q).length:Nat):=by unfold kF;rw [a,b];rfl
    have' e3:kF pr (fun p=>D p || p==i) (fun p=>O p && !(p==i)) p=(((pr p).filter fun q=>!(D q || q==i)).length:Nat):=by
     unfold kF;simp [a,b,hpi]
    rw [e3]
    dsimp only
    rw [e1,<- e2]
    congr 1
    omega
   ·show (if p∈ch n pr i then _ else _)=_
    rw [if_neg fun q=>hf (cj.mp q).2]
    congr 1
    unfold kF
    rw [hcnt0 p hf]
    simp [hpi]
 ·rw [GC]
  refine ⟨h.rdn,dT jk,fun a ha b hb e=>?_⟩
  subst e;have h1:=((h.rd_ a).mp ha).2.2.2 i (cj.mp (FM.mp hb).1).2
  rw [hDi] at h1;cases h1
 ·rw [EG,FM]
  constructor
  ·rintro (q | ⟨q1,q2⟩)
   ·obtain ⟨a,b,c,d⟩:=(h.rd_ p).mp q
    have:p≠i:=fun e=>by rw [e,hi] at c;cases c
    exact ⟨a,by simp [b,this],by simp [c],fun q hq=>by simp [d q hq]⟩
   ·obtain ⟨hpn,hpi⟩:=cj.mp q1
    obtain ⟨a,b,c⟩:=hfol p hpi;exact ⟨hpn,by simp [a,c],by simp [b],(his1 p q1).mp q2⟩
  ·rintro ⟨a,b,c,d⟩
   simp only [Kh,beq_eq_false_iff_ne] at b
   have' hO:O p=false:=by simpa [b.2] using c
   by_cases hf:i∈pr p
   ·have hs:=cj.mpr ⟨a,hf⟩
    exact .inr ⟨hs,(his1 p hs).mpr d⟩
   ·refine .inl ((h.rd_ p).mpr ⟨a,b.1,hO,fun q hq=>?_⟩)
    have:=d q hq;have hqi:q≠i:=fun e=>hf (e▸hq)
    simpa [hqi] using this
 ·have' hp':D p=true\/O p=true:=by
   simp only [Gy,beq_iff_eq,Ea] at hp
   rcases hp with (hp | rfl) | ⟨hp,_⟩
   ·exact .inl hp
   ·exact .inr hi
   ·exact .inr hp
  obtain ⟨a,b⟩:=h.cl p hp';exact ⟨a,fun q hq=>by simp [b q hq]⟩
 ·simp only [Gy,beq_iff_eq] at hp
  rcases hp with hp | hp
  ·simp [h.dj p hp]
  ·simp [hp]
theorem SJ.dones (P:Prd pr):∀ (is:List Nat) {D O:Nat->Bool} {nds:List Nd} {rd:List Nat},is.Nodup->(∀ i∈is,O i=true)->SJ n pr D O nds rd->
  SJ n pr (fun p=>D p || is.contains p) (fun p=>O p && !is.contains p) (is.foldl av (nds,rd)).1 (is.foldl av (nds,rd)).2:=by
 intro is
 induction is with
 | nil=>intro D O nds rd _ _ h;simpa using h
 | cons i is ih0=>
  intro D O nds rd hn hO h;obtain ⟨h1,h2⟩:=GI.mp hn;have:=ih0 h2 (fun j hj=>by
   have:j≠i:=fun e=>h1 (e▸hj)
   simp [hO j (.tail _ hj),this]) (h.done P (hO i (.head _)))
  rw [Fk]
  have e1:(fun p=>(D p || p==i) || is.contains p)=fun p=>D p || (i :: is).contains p:=by funext p;rw [List.contains_cons,Bool.or_assoc]
  have e2:(fun p=>(O p && !(p==i)) && !is.contains p)=fun p=>O p && !(i :: is).contains p:=by funext p;rw [List.contains_cons];cases O p<;>cases (p==i)<;>rfl
  rw [e1,e2] at this
  exact this
theorem SJ.st (P:Prd pr) {is:List Nat} (hn:is.Nodup) (hO:∀ i∈is,O i=true) (h:SJ n pr D O nds rd):∀ pre x post,is=pre++x :: post->∃ y,(pre.foldl av (nds,rd)).1[x]? = some y/\y.np=-1:=by
 rintro pre x post rfl
 rw [GC] at hn
 have hx:x∉pre:=fun q=>hn.2.2 x q x (.head _) rfl
 exact (h.dones P pre hn.1 fun i hi=>hO i (EG.mpr (.inl hi))).np1 (by simp [hO x (by simp),hx])
end
theorem fU:∀ {n:Nat} {l:List Nat},l.Nodup->(∀ x∈l,x<n)->l.length<=n:=by
 intro n
 induction n with
 | zero=>exact fun zz h=>(GO.mpr fun x hx=>Hj _ (h x hx))▸EK _
 | succ n ih=>
  intro l hn h;have hf:=ih (dT (P:=fun i=>!(i==n)) hn) fun x hx=>by
   obtain ⟨a,b⟩:=FM.mp hx;have:=h x a
   simp at b;omega
  by_cases q:n∈l
  ·have:=ic (P:=fun zz=>true) (v:=n) rfl l hn q
   rw [show l.filter (fun zz=>true)=l from GP.mpr fun zz zz=>rfl] at this
   simp only [LC] at this
   omega
  ·have e:l.filter (fun i=>!(i==n))=l:=GP.mpr fun x hx=>by
    have:x≠n:=fun e=>q (e▸hx)
    simpa using this
   rw [e] at hf;omega
theorem cJ (row:List Nat) (b:Nat->Nat->Bool):Prd (bA row b):=⟨fun zz=>dT KI,fun p q hq=>Ef.mp (FM.mp hq).1⟩
theorem lG (row:List Nat) (b:Nat->Nat->Bool):∀ n p,p<n->(bo row b n)[p]? = some ⟨((bA row b p).length:Nat),ch n (bA row b) p⟩:=by
 intro n
 induction n with
 | zero=>intro p h;exact absurd h (Hj _)
 | succ n ih0=>
  intro p h;have hl:=cV row b n;have' hs:ch (n+1) (bA row b) p=ch n (bA row b) p++if p∈bA row b n then [n] else []:=by
   unfold ch
   rw [HI,IP,Ex,KY]
   congr 1
   simp
  rw [ft]
  unfold kA
  rw [hl,tX _ _ _ ((cJ row b).nod n),hs]
  by_cases hp:p<n
  ·rw [Eg (by omega),ih0 p hp]
   show some _=some _
   congr 1
   by_cases q:p∈bA row b n<;>simp [q]
  ·obtain rfl:p=n:=by omega
   have h1:p∉bA row b p:=fun q=>E5 _ ((cJ row b).lt _ _ q)
   have h2:ch p (bA row b) p=[]:=by
    unfold ch
    rw [KQ]
    intro q hq;have' hq:=Ef.mp hq;have:p∉bA row b q:=fun r=>Hu hq ((cJ row b).lt _ _ r)
    simpa using this
   rw [E2 (by omega),hl,GB]
   simp [h1,h2]
noncomputable def no:Nat->Bool:=fun zz=>false
theorem jK (row:List Nat) (b:Nat->Nat->Bool) (n:Nat):SJ n (bA row b) no no (bo row b n) (cC (bo row b n)) where
 len:=cV row b n
 at_:=fun p hp=>by
  rw [lG row b n p hp]
  have:(bA row b p).filter (fun q=>!no q)=bA row b p:=GP.mpr fun zz zz=>rfl
  unfold kF;rw [this];rfl
 rdn:=dT KI
 rd_:=fun p=>by
  unfold cC
  rw [FM,Ef,cV]
  constructor
  ·rintro ⟨h1,h2⟩
   unfold p7 at h2
   rw [lG row b n p h1] at h2
   have' h3:bA row b p=[]:=by simpa using h2
   exact ⟨h1,rfl,rfl,fun q hq=>by rw [h3] at hq;cases hq⟩
  ·rintro ⟨h1,_,_,h2⟩
   refine ⟨h1,?_⟩;have h3:bA row b p=[]:=GO.mpr fun q hq=>by have:=h2 q hq;cases this
   unfold p7
   rw [lG row b n p h1,h3]
   rfl
 cl:=fun p h=>by rcases h with h | h<;>cases h
 dj:=fun p h=>by cases h
section
variable {n:Nat} {pr:Nat->List Nat} {D O:Nat->Bool} {nds:List Nd} {rd:List Nat} {i:Nat}
theorem SJ.rdlt (h:SJ n pr D O nds rd):∀ p∈rd,p<n:=fun p hp=>((h.rd_ p).mp hp).1
theorem SJ.rdl (h:SJ n pr D O nds rd):rd.length<=n:=fU h.rdn h.rdlt
theorem SJ.nd (h:SJ n pr D O nds rd):∀ x∈nds,∃ i,i<n/\x.sc=ch n pr i:=fun x hx=>by
 obtain ⟨i,hi⟩:=Iz hx
 have hl:=(EL.mp hi).1
 rw [h.len] at hl
 rw [h.at_ i hl] at hi
 exact ⟨i,hl,by rw [<- GF.inj hi]⟩
theorem SJ.scl (h:SJ n pr D O nds rd):∀ x∈nds,x.sc.length<=n:=fun x hx=>by
 obtain ⟨i,_,e⟩:=h.nd x hx
 rw [e]
 have:=FL (fun q=>(pr q).contains i) (EQ n)
 rwa [FV] at this
theorem SJ.scn (h:SJ n pr D O nds rd):∀ x∈nds,∀ j∈x.sc,j<nds.length:=fun x hx j hj=>by
 obtain ⟨i,_,e⟩:=h.nd x hx
 rw [e] at hj
 rw [h.len];exact (cj.mp hj).1
theorem SJ.ac (P:Prd pr) (h:SJ n pr D O nds rd):∀ i x,nds[i]? = some x->∀ j∈x.sc,i<j/\j<nds.length:=fun i x hx j hj=>by
 have' hl:=(EL.mp hx).1
 have hl':=hl
 rw [h.len] at hl'
 rw [h.at_ i hl'] at hx
 rw [<- GF.inj hx] at hj
 obtain ⟨a,b⟩:=cj.mp hj
 exact ⟨P.lt _ _ b,by rw [h.len];exact a⟩
noncomputable def kU (s:List Nd×List Nat):List Nd×List Nat:=s.2.foldl av (s.2.foldl (bN (-1)) s.1,[])
theorem SJ.turn (P:Prd pr) (h:SJ n pr D no nds rd):SJ n pr (fun p=>D p || rd.contains p) no (kU (nds,rd)).1 (kU (nds,rd)).2:=by
 have:=h.out.dones P rd h.rdn fun i hi=>by simp [hi]
 have e:(fun p=>(no p || rd.contains p) && !rd.contains p)=no:=by funext p;unfold no;cases rd.contains p<;>rfl
 rw [e] at this
 exact this
end
noncomputable def bJ (row:List Nat) (b:Nat->Nat->Bool):Nat->List Nd×List Nat
 | 0=>(bo row b 5,cC (bo row b 5))
 | t+1=>kU (bJ row b t)
noncomputable def an (row:List Nat) (b:Nat->Nat->Bool):Nat->List Nat
 | 0=>[]
 | t+1=>an row b t++(bJ row b t).2
theorem iQ (row:List Nat) (b:Nat->Nat->Bool):∀ t,SJ 5 (bA row b) (fun p=>(an row b t).contains p) no (bJ row b t).1 (bJ row b t).2:=by
 intro t
 induction t with
 | zero=>
  have e:(fun p=>(an row b 0).contains p)=no:=by funext p;rfl
  rw [e];exact jK row b 5
 | succ t ih0=>
  have:=ih0.turn (cJ row b);have' e:(fun p=>(an row b (t+1)).contains p)=fun p=>(an row b t).contains p || (bJ row b t).2.contains p:=by
   funext p
   rw [an,FY];simp
  rw [e];exact this
theorem hH (row:List Nat) (b:Nat->Nat->Bool):∀ t,(an row b t).Nodup/\∀ p∈an row b t,p<5:=by
 intro t
 induction t with
 | zero=>exact ⟨.nil,fun zz h=>by cases h⟩
 | succ t ih0=>
  obtain ⟨h1,h2⟩:=ih0;have S:=iQ row b t;refine ⟨?_,fun p hp=>?_⟩
  ·rw [an,GC]
   refine ⟨h1,S.rdn,fun a ha c hc e=>?_⟩
   subst e;have:=((S.rd_ a).mp hc).2.1
   simp [ha] at this
  ·rw [an] at hp
   rcases EG.mp hp with hp | hp
   ·exact h2 p hp
   ·exact S.rdlt p hp
theorem wO {row:List Nat} {b:Nat->Nat->Bool} {t:Nat} (h:(bJ row b t).2=[]):bJ row b (t+1)=bJ row b t:=by
 have' e:bJ row b (t+1)=kU (bJ row b t):=rfl
 rw [e];unfold kU;rw [h]
 exact Prod.ext rfl h.symm
theorem ml {row:List Nat} {b:Nat->Nat->Bool} {t:Nat} (h:(bJ row b t).2=[]):∀ m,(bJ row b (t+m)).2=[]:=by
 intro m
 induction m with
 | zero=>exact h
 | succ m ih=>rw [<- FC,wO (ih)];exact ih
theorem xR {row:List Nat} {b:Nat->Nat->Bool}:∀ {t:Nat},(∀ m,m<t->(bJ row b m).2≠[])->t<=(an row b t).length:=by
 intro t
 induction t with
 | zero=>exact fun zz=>En _
 | succ t ih=>
  intro h;have h1:=ih fun m hm=>h m (HJ hm)
  have h2:=Kx.mpr (h t (E6 _))
  rw [an,EX];omega
theorem rt (row:List Nat) (b:Nat->Nat->Bool):(bJ row b 5).2=[]:=by
 by_cases q:(bJ row b 5).2=[]
 ·exact q
 ·have h1:=xR (row:=row) (b:=b) (t:=6) fun m hm e=>by
   have:=ml e (5 - m)
   rw [show m+(5 - m)=5 by omega] at this
   exact q this
  have h2:=fU (hH row b 6).1 (hH row b 6).2
  omega
theorem o8 (row:List Nat) (b:Nat->Nat->Bool):∀ p,p<5->p∈an row b 5:=by
 intro p
 induction p using JG with
 | ind p ih=>
  intro hp;have S:=iQ row b 5
  by_cases q:p∈an row b 5
  ·exact q
  ·have:p∈(bJ row b 5).2:=(S.rd_ p).mpr ⟨hp,by simpa using q,rfl,fun r hr=>by
    have hl:=(cJ row b).lt _ _ hr
    simpa using ih r hl (Ht hl hp)⟩
   rw [rt] at this;cases this
noncomputable def ak (row:List Nat) (b:Nat->Nat->Bool):Nat->List (List Nat)
 | 0=>[]
 | t+1=>ak row b t++if (bJ row b t).2=[] then [] else [(bJ row b t).2]
set_option tactic.hygienic true in
theorem pi (row:List Nat) (b:Nat->Nat->Bool):∀ t,(ak row b t).flatten=an row b t:=by
 intro t
 induction t with
 | zero=>rfl
 | succ t ih=>
  rw [ak,List.flatten_append,ih,an]
  split
  ·rename_i h;rw [h];rfl
  ·simp
theorem lT (row:List Nat) (b:Nat->Nat->Bool):∀ t,(ak row b t).length<=t:=by
 intro t
 induction t with
 | zero=>exact EK _
 | succ t this=>
  rw [ak,EX]
  split<;>simp<;>omega
noncomputable def ag (row:List Nat) (b:Nat->Nat->Bool):List (List Nat):=(ak row b 5).map fun g=>g.map fun p=>row.getD p 0
section
variable {Z post:aC} {rd:List Nat} {po nf:Int} {nds:List Nd}
theorem nN {t:aC}:so5 Z rd po nf nds post++t=so5 Z rd po nf nds (post++t):=by unfold so5;simp
theorem nK:(so5 Z rd po nf nds post).length=Z.length+3+2 * nds.length+post.length:=by unfold so5;simp [cR];omega
theorem tC {i:Nat}:(so5 Z rd po nf nds post)[Z.length+(3+2 * nds.length+i)]? = post[i]?:=by
 unfold so5
 rw [E2 (EP _ _),E4,E2 (by rw [cR];omega),cR]
 rw [show 3+2 * nds.length+i - (2+2 * nds.length)=i+1 by omega,Ey]
theorem kY {i:Nat} {o:AO}:(so5 Z rd po nf nds post).set (Z.length+(3+2 * nds.length+i)) o=so5 Z rd po nf nds (post.set i o):=by
 unfold so5
 rw [Eh _ _ (EP _ _),E4,Eh _ _ (by rw [cR];omega),cR]
 rw [show 3+2 * nds.length+i - (2+2 * nds.length)=i+1 by omega,F7]
variable {x y:AO}
theorem ng (h:nds.length=5):(so5 Z rd po nf nds [x,y])[Z.length+13]? = some x:=by have:=tC (Z:=Z) (rd:=rd) (po:=po) (nf:=nf) (nds:=nds) (post:=[x,y]) (i:=0);rw [h] at this;exact this
theorem tp (h:nds.length=5):(so5 Z rd po nf nds [x,y])[Z.length+14]? = some y:=by have:=tC (Z:=Z) (rd:=rd) (po:=po) (nf:=nf) (nds:=nds) (post:=[x,y]) (i:=1);rw [h] at this;exact this
theorem ny (h:nds.length=5) {o:AO}:(so5 Z rd po nf nds [x,y]).set (Z.length+13) o=so5 Z rd po nf nds [o,y]:=by have:=kY (Z:=Z) (rd:=rd) (po:=po) (nf:=nf) (nds:=nds) (post:=[x,y]) (i:=0) (o:=o);rw [h] at this;exact this
theorem tL (h:nds.length=5) {o:AO}:(so5 Z rd po nf nds [x,y]).set (Z.length+14) o=so5 Z rd po nf nds [x,o]:=by have:=kY (Z:=Z) (rd:=rd) (po:=po) (nf:=nf) (nds:=nds) (post:=[x,y]) (i:=1) (o:=o);rw [h] at this;exact this
end
noncomputable def am (m:Nat):List AV:=FO m (.dat .none)
theorem gf (m:Nat):am m++[.dat .none]=am (m+1):=by unfold am;rw [<- List.replicate_succ']
theorem eH:∀ m:Nat,m<32->SeqAt.shaped (.list (FO m JC))=true:=by decide +kernel
theorem mP:∀ m:Nat,m<32->FF (.list (FO m JC)) (.list (FO m JC))=true:=by decide +kernel
section
variable {C:Cx} (H:bH C) {fz:List Nat} {σ:aC}
include H
theorem pq {row:List Nat} {b:Nat->Nat->Bool} (hr:row.length=5) (hr4:∀ x∈row,x<4) (hfz:∀ i∈fz,i<σ.length) :
  aP C 8 fz (.ref 930) [.dat (be row),.dat (dB b)] [] σ (.dat (.list ((ag row b).map be))) σ:=by
 have hz13:σ.length+13∉fz:=fun h=>by have:=hfz _ h;omega
 have hz14:σ.length+14∉fz:=fun h=>by have:=hfz _ h;omega
 obtain ⟨g,hg⟩:∃ g:List Nat->AV,∀ q,g q=AV.dat (be (q.map fun p=>row.getD p 0)):=⟨_,fun zz=>rfl⟩
 obtain ⟨S,hS⟩:∃ S:List Nat->aC,∀ q,S q=so5 σ (bJ row b q.length).2 (an row b q.length).length (an row b q.length).length (bJ row b q.length).1 [.list (am (1+2 * (ak row b q.length).length)),.list ((ak row b q.length).map g)]:=⟨_,fun zz=>rfl⟩
 have hL:∀ t,(bJ row b t).1.length=5:=fun t=>(iQ row b t).len
 have hend:S (EQ 5)=σ++(bd σ.length (.ref (σ.length+2+2 * (bJ row b 5).1.length)) (an row b 5).length (an row b 5).length (bJ row b 5).1++(.list ((bJ row b 5).2.map bX) :: [.list (am (1+2 * (ak row b 5).length)),.list ((ak row b 5).map g)])):=by rw [hS,FV];rfl
 refine aP.pure (t:=bd σ.length (.ref (σ.length+2+2 * (bJ row b 5).1.length)) (an row b 5).length (an row b 5).length (bJ row b 5).1++(.list ((bJ row b 5).2.map bX) :: [.list (am (1+2 * (ak row b 5).length)),.list ((ak row b 5).map g)])) (a:=.ref (σ.length+14)) ?_ ?_
 ·rw [<- hend]
  have' hrow:be row=.list (row.map nD):=rfl;have hrl:(row.map nD).length<=FI:=by rw [EF,ER];omega
  wtm_at "Dp"
  case hr=>exact .ret
  case h=>
   dsimp only;refine' aA (σ₁:=σ++(bd σ.length (.dat .none) 0 0 (bo row b 5)++[])) ?s1 (aA (σ₁:=so5 σ (cC (bo row b 5)) 0 0 (bo row b 5) [.list (am 1)]) ?s2 (aA (σ₁:=S []) ?s3 (aA (σ₁:=S (EQ 5)) ?s4 (aA (σ₁:=S (EQ 5)) ?s5 (a8 (aT ?s6))))))
   case s1=>
    refine' aB ?v ?t
    case v=>
     refine' ah ?f (kp_ H (by kernel_rfl)) (aZ ?l (by with_unfolding_all rfl)) (kC H hr hr4 hfz) (by show 7<=7;decide) rfl (by intro _;with_unfolding_all rfl)
     case f=>wtm_at "Me"
     case l=>wtm_at "Ml"
    case t=>wtm_at "Ma"
   case s2=>
    refine' aB (a:=.ref (σ.length+13)) (σ₁:=so5 σ (cC (bo row b 5)) 0 0 (bo row b 5) [.list (am 1)]) ?v ?t
    case v=>
     have' S0:=jK row b 5;have cp:=m4 H (fz:=fz) (Z:=σ) (po:=0) (nf:=0) (nds:=bo row b 5) (by rw [cV];decide) (S0.ac (cJ row b)) hfz
     refine' aG.st (aG.of (cK (as:=[.dat .none]) ?w ?w2) ?w3) ?w4
     case w=>
      refine' bF (bC ?ho (bB dH (bw H) (fd_ H (by kernel_rfl)) (fn_ H (by kernel_rfl)) rfl) (kp_ H (by kernel_rfl)) b7 cp (by show 3<=7;decide) rfl (by intro _;exact ⟨_,rfl⟩)) bR (by with_unfolding_all rfl)
      case ho=>wtm_at "Me"
     case w2=>decide
     case w3=>rw [nK,cV];rfl
     case w4=>rw [nN];rfl
    case t=>wtm_at "Ma"
   case s3=>
    refine' aB (a:=.ref (σ.length+14)) (σ₁:=S []) ?v ?t
    case v=>
     refine' aG.st (aG.of (cK ?w ?w2) ?w3) ?w4
     case w=>wtm_at "Ml"
     case w2=>decide
     case w3=>rw [nK,cV];rfl
     case w4=>rw [nN,hS];rfl
    case t=>wtm_at "Ma"
   case s4=>
    refine' bf (ls:=[]) ?hi ?hf
    case hi=>
     have h1:(5:Int)<2 ^ 62:=by decide
     have h2:-(2 ^ 62)<=(5:Int):=by decide
     wtm_at "Mi"
    case hf=>
     rw [show ((5:Int)).toNat=5 from rfl,dG]
     dsimp only [EZ];refine' cW (S:=S) ?ha ?hb
     case ha=>intro pre p post hx;wtm_at "Ma"
     case hb=>
      intro pre p post hx;obtain ⟨hpl,hp5⟩:=eK hx;subst hpl;have J:=iQ row b pre.length;have J1:=iQ row b (pre.length+1);have hl5:=J.len;have hrd5:=J.rdl;have hgl:=lT row b pre.length;have ca:=gH H (fz:=fz) (Z:=σ) (post:=[.list (am (1+2 * (ak row b pre.length).length)),.list ((ak row b pre.length).map g)]) (rd:=(bJ row b pre.length).2) (po:=(an row b pre.length).length) (nf:=(an row b pre.length).length) (nds:=(bJ row b pre.length).1) (by omega)
      rw [hS,hS,EX,Ei]
      by_cases q:(bJ row b pre.length).2=[]
      ·rw [wO q,ak,an,if_pos q,q,FH,FH]
       rw [q] at ca
       refine' aw.sub (aE (aN (aY.of (bV (bC ?ho (bB cO (bw H) (fd_ H (by kernel_rfl)) (fn_ H (by kernel_rfl)) rfl) (kp_ H (by kernel_rfl)) b7 ca (by show 2<=7;decide) rfl (by intro _;exact ⟨_,rfl⟩)) dW (by intro _;with_unfolding_all rfl)) ?e) aH)) ?sb
       case ho=>wtm_at "Me"
       case e=>simp
       case sb=>wtm_at "Msub"
      ·have hturn:bJ row b (pre.length+1)=(bJ row b pre.length).2.foldl av ((bJ row b pre.length).2.foldl (bN (-1)) (bJ row b pre.length).1,[]):=rfl
       have Jo:=J.out;have hst:=Jo.st (cJ row b) J.rdn fun i hi=>by simp [hi]
       rw [ak,an,if_neg q,EX,Ek,EX,Ei]
       rw [hturn] at J1 ⊢
       generalize bJ row b pre.length=cur at *
       obtain ⟨nds,rd⟩:=cur;dsimp only at *
       generalize ak row b pre.length=gs at *
       generalize an row b pre.length=fl at *
       have hrd1:(rd.map nD).length=rd.length:=by rw [EF]
       have hrde:rd.isEmpty=false:=by cases rd with
        | nil=>exact absurd rfl q
        | cons _ _=>rfl
       have hl5':=eM (-1) rd nds
       rw [hl5] at hl5'
       have hl5'':(rd.foldl av (rd.foldl (bN (-1)) nds,[])).1.length=5:=J1.len;have cg:=kx H (fz:=fz) (Z:=σ) (post:=[.list (am (1+2 * gs.length)),.list (gs.map g)]) (rd:=rd) (po:=fl.length) (nf:=fl.length) (nds:=nds) (fun p hp=>by rw [hl5];exact J.rdlt p hp) (by omega) (by omega) hfz
       have' cb:=gH H (fz:=fz) (Z:=σ) (post:=[.list (am (1+2 * gs.length)),.list ((gs.map g)++[g rd])]) (rd:=[]) (po:=fl.length+rd.length) (nf:=fl.length) (nds:=rd.foldl (bN (-1)) nds) (by decide)
       have' cd:=xX H (fz:=fz) (Z:=σ) (post:=[.list (am (1+2 * gs.length+1)),.list ((gs.map g)++[g rd])]) (rd:=[]) (po:=fl.length+rd.length) (nf:=fl.length) (nds:=rd.foldl (bN (-1)) nds) (is:=rd) (by omega) (by decide) (by omega) (fun x hx=>EH (Jo.scl x hx) (by decide)) Jo.scn hst hfz
       refine' aw.sub (aE (bL (aY.of (bV (bC ?ho (bB cO (bw H) (fd_ H (by kernel_rfl)) (fn_ H (by kernel_rfl)) rfl) (kp_ H (by kernel_rfl)) b7 ca (by show 2<=7;decide) rfl (by intro _;exact ⟨_,rfl⟩)) dW (by intro _;with_unfolding_all rfl)) ?e) (aA (σ₁:=so5 σ [] (fl.length+rd.length) fl.length (rd.foldl (bN (-1)) nds) [.list (am (1+2 * gs.length)),.list (gs.map g)]) ?a1 (aA (σ₁:=so5 σ [] (fl.length+rd.length) fl.length (rd.foldl (bN (-1)) nds) [.list (am (1+2 * gs.length)),.list ((gs.map g)++[g rd])]) ?a2 (aA (σ₁:=so5 σ [] (fl.length+rd.length) fl.length (rd.foldl (bN (-1)) nds) [.list (am (1+2 * gs.length+1)),.list ((gs.map g)++[g rd])]) ?a3 (aE ?a4)))))) ?sb
       case ho=>wtm_at "Me"
       case e=>simp [hrde]
       case a1=>
        refine' aB ?v9 ?t9
        case v9=>
         refine' bC ?ho (bB cO (bw H) (fd_ H (by kernel_rfl)) (fn_ H (by kernel_rfl)) rfl) (kp_ H (by kernel_rfl)) b7 cg (by show 2<=7;decide) rfl (by intro _;exact ⟨_,rfl⟩)
         case ho=>wtm_at "Me"
        case t9=>wtm_at "Ma"
       case a2=>
        refine' aq.st (bO (ba (i:=σ.length+14) (xs:=gs.map g) (a:=g rd) ?ho ?hv ⟨_,tp hl5'⟩ (tp hl5') hz14 ?hsz)) (tL hl5')
        case ho=>wtm_at "Me"
        case hsz=>rw [EF,ER];omega
        case hv=>
         rw [hg,show be (rd.map fun p=>row.getD p 0)=.list ((rd.map fun p=>row.getD p 0).map nD) from rfl,ET]
         wtm_at "Dc"
         case hz=>rw [EF,ER];omega
         case hc=>
          rw [ET]
          refine' cN rfl ?ha ?hee ?hs
          case ha=>intro i hx;dsimp only [Function.comp];wtm_at "Ma"
          case hee=>
           intro i hx;have hi5:=J.rdlt i hx;have h0:(0:Int)<=(i:Int):=E7 i;have h4:(i:Int)<2 ^ 63:=by omega
           have hd:=gC (row:=row) (p:=i) (by omega)
           rw [hrow]
           dsimp only [Function.comp];wtm_at "Me"
          case hs=>intro i hx;wtm_at "Msub"
       case a3=>
        refine' aq.st (bO (ba (i:=σ.length+13) (xs:=am (1+2 * gs.length)) (a:=.dat .none) ?ho ?hv ⟨_,ng hl5'⟩ (ng hl5') hz13 ?hsz)) ?he
        case ho=>wtm_at "Me"
        case hsz=>unfold am;rw [Gh,ER];omega
        case he=>rw [ny hl5',gf]
        case hv=>
         refine' ze (aY.of (cD ?x ?y) ?e2) ix
         case x=>
          refine' bV (cu ?f ?l rj (by with_unfolding_all rfl)) dW (by intro _;with_unfolding_all rfl)
          case f=>wtm_at "Me"
          case l=>wtm_at "Ml"
         case y=>
          refine' ai (bC ?ho (bB cO (bw H) (fd_ H (by kernel_rfl)) (fn_ H (by kernel_rfl)) rfl) (kp_ H (by kernel_rfl)) b7 cb (by show 2<=7;decide) rfl (by intro _;exact ⟨_,rfl⟩)) fV (OpG.of2 (xO rfl))
          case ho=>wtm_at "Me"
         case e2=>
          have' hd:decide ((fl.length:Int)<(fl.length:Int)+(rd.length:Int))=true:=by
           have:0<rd.length:=Kx.mpr q;exact decide_eq_true (by omega)
          rw [hd];rfl
       case a4=>
        have hn2:am (1+2 * gs.length+1)++[.dat .none]=am (1+2 * (gs.length+1)):=by rw [gf];congr 1
        refine' aq.st (bO (ba (i:=σ.length+13) (xs:=am (1+2 * gs.length+1)) (a:=.dat .none) ?ho ?hv ⟨_,ng hl5'⟩ (ng hl5'') hz13 ?hsz)) ?he
        case ho=>wtm_at "Me"
        case hsz=>unfold am;rw [Gh,ER];omega
        case he=>rw [ny hl5'',hn2]
        case hv=>
         refine' mL ?ho cO (bw H) (fd_ H (by kernel_rfl)) (sp_ H (by kernel_rfl)) (tk_ H (by kernel_rfl)) (by decide +kernel) rfl (fi_ H (by kernel_rfl)) (fn_ H (by kernel_rfl)) (by intro _;rfl) (uw ?x .tuple ?hz) cd (by show 2<7;decide)
         case ho=>wtm_at "Me"
         case x=>wtm_at "Me"
         case hz=>rw [EF,ER];omega
       case sb=>wtm_at "Msub"
   case s5=>
    have' hgl:=lT row b 5;have hl5:=hL 5;have cb:=gH H (fz:=fz) (Z:=σ) (post:=[.list (am (1+2 * (ak row b 5).length)),.list ((ak row b 5).map g)]) (rd:=(bJ row b 5).2) (po:=(an row b 5).length) (nf:=(an row b 5).length) (nds:=(bJ row b 5).1) (by have:=(iQ row b 5).rdl;omega)
    rw [hS,FV]
    have h32:1+2 * (ak row b 5).length<32:=Er (FJ (Gb 2 hgl) 1) (by decide)
    have hzl:(((am (1+2 * (ak row b 5).length)).length:Nat):Int)<2 ^ 63:=by unfold am;rw [Gh];exact LP (Gl.mpr h32) (by decide)
    have' hm0:(0:Int)<=(((am (1+2 * (ak row b 5).length)).length:Nat):Int):=E7 _;have hm1:(((am (1+2 * (ak row b 5).length)).length:Nat):Int)<=1000:=by unfold am;rw [Gh];exact JL (H9.mpr (El h32)) (by decide)
    have hrep:(am (1+2 * (ak row b 5).length)).length=1+2 * (ak row b 5).length:=by unfold am;rw [Gh]
    have hfr:am (1+2 * (ak row b 5).length)=(FO (1+2 * (ak row b 5).length) JC).map .dat:=by unfold am;rw [List.map_replicate]
    have' hsA:(so5 σ (bJ row b 5).2 (an row b 5).length (an row b 5).length (bJ row b 5).1 [.list (am (1+2 * (ak row b 5).length)),.list ((ak row b 5).map g)])[σ.length+13]? = some (.list ((FO (1+2 * (ak row b 5).length) JC).map .dat)):=by rw [ng hl5,hfr]
    refine' aN (aY.of (fA (aY.of (ai ?l ?r (OpG.see (ir (eH (1+2 * (ak row b 5).length) h32) (eH (1+2 * (ak row b 5).length) h32)) (Frz.dats (En _) hsA) .dat)) ?e1) ?y) ?e2) aH
    case l=>wtm_at "Me"
    case r=>
     refine' aG.of (cx ?b1 ?b2 (OpG.of2 (xd hm0 hm1))) ?b3
     case b1=>
      refine' fT ?k1 ?k2 ?k3
      case k1=>wtm_at "Ml"
      case k2=>wtm_at "Mdats"
      case k3=>wtm_at "Mside"
     case b2=>
      refine' cu ?f ?l2 (oG (ng hl5) hzl) (by with_unfolding_all rfl)
      case f=>wtm_at "Me"
      case l2=>wtm_at "Ml"
     case b3=>rw [hrep];rfl
    case e1=>rw [mP _ (by omega)];rfl
    case y=>
     refine' ai (bC ?ho (bB cO (bw H) (fd_ H (by kernel_rfl)) (fn_ H (by kernel_rfl)) rfl) (kp_ H (by kernel_rfl)) b7 cb (by show 2<=7;decide) rfl (by intro _;exact ⟨_,rfl⟩)) fV (OpG.of2 (lE rfl))
     case ho=>wtm_at "Me"
    case e2=>rw [rt,decide_eq_false (Int.lt_irrefl _)];rfl
   case s6=>wtm_at "Me"
 ·have' e:=tp (Z:=σ) (rd:=(bJ row b 5).2) (po:=(an row b 5).length) (nf:=(an row b 5).length) (nds:=(bJ row b 5).1) (x:=.list (am (1+2 * (ak row b 5).length))) (y:=.list ((ak row b 5).map g)) (hL 5)
  refine Frz.dats (EP _ _) (e.trans ?_);unfold ag
  rw [ET,ET]
  congr 2
  exact FR fun q zz=>hg q
end
noncomputable def ie {α:Type} (n:Nat) (lt:Nat->Nat->Bool):KasT α->Option α
 | .ret a=>some a
 | .ask i j k=>if i<n/\j<n then ie n lt (k (lt i j)) else none
set_option tactic.hygienic true in
theorem uA {α:Type} {cmp:Nat->Nat->(Bool->Shared->Prop)->Shared->Prop} {n:Nat} {lt:Nat->Nat->Bool} {s:Shared} (hc:∀ i j,i<n->j<n->∀ C:Bool->Shared->Prop,C (lt i j) s->cmp i j C s) {Q:α->Shared->Prop} {a:α}:∀ t:KasT α,ie n lt t=some a->Q a s->t.kasWp cmp Q s:=by
 intro t
 induction t with
 | ret b=>
  intro h q
  cases h;exact q
 | ask i j k ih=>
  intro h q;have h:(if i<n/\j<n then ie n lt (k (lt i j)) else none)=some a:=h
  split at h
  ·rename_i hij
   exact hc i j hij.1 hij.2 _ (ih (lt i j) h q)
  ·cases h
noncomputable def jr:Nat->Nat->List (List Nat)
 | _,0=>[[]]
 | n,k+1=>(jr n k).flatMap fun r=>(EQ n).map fun x=>x :: r
theorem tQ {n:Nat}:∀ {k:Nat} {r:List Nat},r.length=k->(∀ x∈r,x<n)->r∈jr n k:=by
 intro k
 induction k with
 | zero=>exact fun h zz=>Gw.mp h▸.head _
 | succ k ih=>
  intro r h hx
  cases r with
  | nil=>cases h
  | cons x r=>
  rw [jr,HZ]
  exact ⟨r,ih (by simpa using h) fun y hy=>hx y (.tail _ hy),EO.mpr ⟨x,Ef.mpr (hx x (.head _)),rfl⟩⟩
noncomputable def nr:List Nat->Bool
 | []=>true
 | [_]=>true
 | x :: y :: r=>decide (x<=y) && nr (y :: r)
noncomputable def eL (n:Nat) (r:List Nat):Bool:=match ie n (fun i j=>decide (r.getD i 0<r.getD j 0)) (kas_sort n) with
 | some p=>p.toList.isPerm (EQ n) && nr (p.toList.map fun i=>r.getD i 0)
 | none=>false
theorem AW:∀ r∈jr 2 2,eL 2 r=true:=by decide +kernel
theorem Ak:∀ r∈jr 3 3,eL 3 r=true:=by decide +kernel
noncomputable def wkr (r:List Nat):Bool:=r.all fun x=>LM (r.filter fun y=>decide (y<x)).length x
theorem A6:∀ r∈(jr 4 4).filter wkr,eL 4 r=true:=by decide +kernel
theorem Aa:∀ r∈(jr 5 5).filter wkr,eL 5 r=true:=by decide +kernel
section
open PySem PySem.W PySem.Calls PyProof.Rows
noncomputable def eP (x:Nat×Nat):Nat:=x.1 * 8+x.2
noncomputable def gR (ps:List (Nat×Nat)):List (Nat×Nat):=ps.mergeSort fun x y=>decide (eP x<=eP y)
noncomputable def pD (x:Nat×Nat):PyData:=.tuple [nD x.1,nD x.2]
theorem Aj {x y:Nat×Nat} (hx:x.2<8) (hy:y.2<8) (h:eP x=eP y):x=y:=by
 unfold eP at h
 exact Prod.ext (by omega) (by omega)
theorem fi (ps:List (Nat×Nat)):(gR ps).Perm ps:=Gc ..
theorem jN (ps:List (Nat×Nat)):(gR ps).Pairwise fun x y=>eP x<=eP y:=
 (IV (le:=fun (a b:Nat×Nat)=>decide (eP a<=eP b)) (fun a b c h1 h2=>by simp at *;omega) (fun a b=>by simp;omega) ps).imp fun h=>by simpa using h
theorem lN:∀ {a b:List (Nat×Nat)},(∀ x∈a,x.2<8)->a.Perm b->a.Pairwise (fun x y=>eP x<=eP y)->b.Pairwise (fun x y=>eP x<=eP y)->a=b:=by
 intro a
 induction a with
 | nil=>intro b _ hp _ _;exact (Ju.mp hp).symm
 | cons x a ih=>
  intro b h8 hp ha hb
  cases b with
  | nil=>exact absurd hp.length_eq (by simp)
  | cons y b=>
   rw [Fh] at ha hb
   have hy:y∈x :: a:=hp.mem_iff.mpr (.head _);have' h1:eP y<=eP x:=by
    rcases EV.mp (hp.mem_iff.mp (.head _)) with q | q
    ·rw [q];exact EK _
    ·exact hb.1 x q
   have' h2:eP x<=eP y:=by
    rcases EV.mp hy with q | q
    ·rw [q];exact EK _
    ·exact ha.1 y q
   obtain rfl:x=y:=Aj (h8 x (.head _)) (h8 y hy) (HG h2 h1)
   rw [ih (fun z hz=>h8 z (.tail _ hz)) hp.cons_inv ha.2 hb.2]
theorem nF {a b:Nat} (hab:a<b):∀ {l:List Nat},a∈l->(l.filter fun x=>decide (x<a)).length<(l.filter fun x=>decide (x<b)).length:=by
 intro l
 induction l with
 | nil=>intro h;exact absurd h Fe
 | cons x l ih0=>
  intro h;have' le:∀ l:List Nat,(l.filter fun x=>decide (x<a)).length<=(l.filter fun x=>decide (x<b)).length:=fun l=>by
   induction l with
   | nil=>exact EK _
   | cons y l ih=>
    rw [Ex,Ex]
    by_cases p:y<a
    ·have:y<b:=by omega
     simp [p,this];exact ih
    ·by_cases q:y<b<;>simp [p,q]<;>omega
  rw [Ex,Ex]
  by_cases q:x=a
  ·subst q
   have:=le l
   simp [hab];omega
  ·have' h':a∈l:=(EV.mp h).resolve_left (Ne.symm q)
   have ih:=ih0 h'
   by_cases p:x<a
   ·have:x<b:=by omega
    simp [p,this];exact ih
   ·by_cases r:x<b<;>simp [p,r]<;>omega
theorem n9 {a b:Nat} (hab:a<=b):∀ (l:List Nat),(l.filter fun x=>decide (x<a)).length<=(l.filter fun x=>decide (x<b)).length:=by
 intro l
 induction l with
 | nil=>exact EK _
 | cons y l ih=>
  rw [Ex,Ex]
  by_cases p:y<a
  ·have:y<b:=by omega
   simp [p,this];exact ih
  ·by_cases q:y<b<;>simp [p,q]<;>omega
theorem lu {a:Nat}:∀ {l:List Nat},a∈l->(l.filter fun x=>decide (x<a)).length<l.length:=by
 intro l
 induction l with
 | nil=>exact fun h=>nomatch h
 | cons x l ih=>
  intro h
  rw [Ex]
  by_cases q:x=a
  ·subst q
   have:=FL (fun y=>decide (y<x)) l
   simp;omega
  ·have ih:=ih ((EV.mp h).resolve_left (Ne.symm q))
   by_cases p:x<a
   ·rw [if_pos (decide_eq_true p),E0,E0];omega
   ·rw [if_neg (by simpa using p),E0];omega
theorem mi:∀ {l:List Nat},nr l=true->l.Pairwise (·<=·)
 | [],_=>.nil
 | [_],_=>Gu _ _
 | x :: y :: r,h=>by
  unfold nr at h
  simp only [Ea,decide_eq_true_eq] at h
  have ih:=mi h.2
  rw [Fh]
  refine ⟨fun z hz=>?_,ih⟩
  rcases EV.mp hz with rfl | hz
  ·exact h.1
  ·exact EH h.1 ((Fh.mp ih).1 z hz)
noncomputable def eQ (ps:List (Nat×Nat)) (x:Nat×Nat):Nat:=((ps.map eP).filter fun y=>decide (y<eP x)).length
theorem uk {ps:List (Nat×Nat)} (h2:2<=ps.length) (h5:ps.length<=5) (h8:∀ x∈ps,x.2<8) :
  ∃ p:Array Nat,ie ps.length (fun i j=>decide (eP (ps.getD i (0,0))<eP (ps.getD j (0,0)))) (kas_sort ps.length)=some p/\(∀ i∈p.toList,i<ps.length)/\p.toList.map (fun i=>ps.getD i (0,0))=gR ps:=by
 have hm:∀ i,i<ps.length->ps.getD i (0,0)∈ps:=fun i hi=>by rw [GN,Eb hi];exact Gi hi
 have hr:ps.map (eQ ps)∈jr ps.length ps.length:=tQ (by simp) fun x hx=>by
  obtain ⟨y,hy,rfl⟩:=EO.mp hx;have:=lu (EO.mpr ⟨y,hy,rfl⟩:eP y∈ps.map eP)
  rwa [EF] at this
 have hlt:∀ x∈ps,∀ y∈ps,(eQ ps x<eQ ps y↔eP x<eP y):=fun x hx y hy=>by
  constructor
  ·intro h
   apply Nat.lt_of_not_le
   intro q;have:=n9 q (ps.map eP);unfold eQ at h;omega
  ·intro h
   exact nF h (EO.mpr ⟨x,hx,rfl⟩)
 have hw:wkr (ps.map (eQ ps))=true:=GW.mpr fun x hx=>by
  obtain ⟨p,hp,rfl⟩:=EO.mp hx;have e:eQ ps p=(ps.filter fun q=>decide (eP q<eP p)).length:=by unfold eQ;rw [II,EF];rfl
  have' e2:((ps.map (eQ ps)).filter fun y=>decide (y<eQ ps p)).length=(ps.filter fun q=>decide (eP q<eP p)).length:=by
   rw [II,EF]
   exact congrArg H7 (GS fun q hq=>decide_eq_decide.mpr (hlt q hq p hp))
  rw [e2,<- e]
  exact Nat.beq_refl _
 have hs:eL ps.length (ps.map (eQ ps))=true:=by
  have:ps.length=2\/ps.length=3\/ps.length=4\/ps.length=5:=by omega
  generalize ps.map (eQ ps)=r at hr hw
  rcases this with e | e | e | e<;>rw [e] at hr ⊢
  ·exact AW r hr
  ·exact Ak r hr
  ·exact A6 r (FM.mpr ⟨hr,hw⟩)
  ·exact Aa r (FM.mpr ⟨hr,hw⟩)
 have hget:∀ i,i<ps.length->(ps.map (eQ ps)).getD i 0=eQ ps (ps.getD i (0,0)):=fun i hi=>by simp [GN,hi]
 have' hrun:∀ {α:Type} (t:KasT α),ie ps.length (fun i j=>decide ((ps.map (eQ ps)).getD i 0<(ps.map (eQ ps)).getD j 0)) t=ie ps.length (fun i j=>decide (eP (ps.getD i (0,0))<eP (ps.getD j (0,0)))) t:=by
  intro α t
  induction t with
  | ret a=>rfl
  | ask i j k ih=>
   unfold ie
   by_cases h:i<ps.length/\j<ps.length
   ·rw [if_pos h,if_pos h,ih]
    congr 2
    rw [hget i h.1,hget j h.2]
    exact decide_eq_decide.mpr (hlt _ (hm i h.1) _ (hm j h.2))
   ·rw [if_neg h,if_neg h]
 unfold eL at hs
 rw [hrun] at hs
 cases e:ie ps.length (fun i j=>decide (eP (ps.getD i (0,0))<eP (ps.getD j (0,0)))) (kas_sort ps.length) with
 | none=>rw [e] at hs;cases hs
 | some p=>
  rw [e] at hs
  simp only [Ea] at hs
  have hp:p.toList.Perm (EQ ps.length):=List.isPerm_iff.mp hs.1;have hpl:∀ i∈p.toList,i<ps.length:=fun i hi=>Ef.mp (hp.mem_iff.mp hi)
  refine ⟨p,rfl,hpl,?_⟩;have' e1:(EQ ps.length).map (fun i=>ps.getD i (0,0))=ps:=by
   refine KJ (by simp) fun i h1 h2=>?_
   simp [GN,h2]
  have hperm:(p.toList.map fun i=>ps.getD i (0,0)).Perm ps:=by
   have:=hp.map fun i=>ps.getD i (0,0)
   rwa [e1] at this
  refine lN (fun x hx=>h8 x (hperm.mem_iff.mp hx)) (hperm.trans (fi ps).symm) ?_ (jN ps)
  have hpw:=mi hs.2
  rw [Ho] at hpw ⊢
  refine hpw.imp_of_mem fun {i j} hi hj h=>?_
  rw [hget i (hpl i hi),hget j (hpl j hj)] at h
  apply Jx
  intro q;have:=(hlt _ (hm j (hpl j hj)) _ (hm i (hpl i hi))).mpr q
  omega
noncomputable def cw (h:Heap) (vs:List Value) (ps:List (Nat×Nat)):Prop:=vs.length=ps.length/\∀ (i:Nat) (x:Nat×Nat),ps[i]? = some x->∃ (t:Addr) (o:Obj) (m:Nat) (k1 k2:Tok),vs[i]? = some (Fj t)/\h.get? t=some o/\o.cls=.type "tuple" /\ o.data=.seq #[.int (x.1:Int) k1,.int (x.2:Int) k2] m
theorem cw.tups {h:Heap}:∀ {vs:List Value} {ps:List (Nat×Nat)},cw h vs ps->∃ fs:List Value,KatTups h vs fs/\fs.length=ps.length/\∀ f∈fs,∃ n t,f=.int n t:=by
 intro vs
 induction vs with
 | nil=>
  intro ps H
  cases ps with
  | nil=>exact ⟨[],trivial,rfl,jI⟩
  | cons _ _=>exact nomatch H.1
 | cons v vs ih=>
  intro ps H
  cases ps with
  | nil=>exact nomatch H.1
  | cons x ps=>
   obtain ⟨hl,hp⟩:=H;obtain ⟨t,o,m,k1,k2,hv,ho,hc,hd⟩:=hp 0 x rfl;obtain ⟨fs,h1,h2,h3⟩:=ih (ps:=ps) ⟨by simpa using hl,fun i y hy=>hp (i+1) y hy⟩
   obtain rfl:v=.ref t:=by simpa using hv
   refine ⟨.int (x.1:Int) k1 :: fs,KatTups.cons ho hc hd rfl h1,by simp [h2],fun f hf=>?_⟩
   rcases EV.mp hf with rfl | hf
   ·exact ⟨_,_,rfl⟩
   ·exact h3 f hf
theorem cw.mono {h h':Heap} {vs:List Value} {ps:List (Nat×Nat)} (H:cw h vs ps) (k:∀ t o,h.get? t=some o->o.cls=.type "tuple" -> h'.get? t=some o):cw h' vs ps:=
 ⟨H.1,fun i x hx=>by
  obtain ⟨t,o,m,k1,k2,a,b,c,d⟩:=H.2 i x hx;exact ⟨t,o,m,k1,k2,a,k t o b c,c,d⟩⟩
section
variable {prog:Fq} {w:World} {A:Around} {E:Value->Shared->Prop} {s:Shared}
theorem vF {vs:List Value} {ps:List (Nat×Nat)} (H:cw s.heap vs ps) (h8:∀ x∈ps,x.2<8) (i j:Nat) (hi:i<ps.length) (hj:j<ps.length) (C:Bool->Shared->Prop) (h:C (decide (eP (ps.getD i (0,0))<eP (ps.getD j (0,0)))) s) :
  kas_ask prog w A (tuples' true) vs i j C s:=by
 have ei:ps[i]? = some (ps.getD i (0,0)):=by simp [GN,hi]
 have ej:ps[j]? = some (ps.getD j (0,0)):=by simp [GN,hj]
 have i8:=h8 _ (EN ei)
 have j8:=h8 _ (EN ej)
 obtain ⟨t,o,m,k1,k2,hv,ho,hc,hd⟩:=H.2 i _ ei
 obtain ⟨t',o',m',k1',k2',hv',ho',hc',hd'⟩:=H.2 j _ ej
 generalize ps.getD i (0,0)=x at *
 generalize ps.getD j (0,0)=y at *
 unfold kas_ask
 rw [show vs.getD i FE=.ref t by rw [GN,hv];rfl,show vs.getD j FE=.ref t' by rw [GN,hv'];rfl]
 refine kat_lt ho hd ho' hd' ?_
 unfold eP at h
 refine kat_cons (wpAny_eqBool_int (kat_go (fun e=>kat_yes (kat_cons (wpAny_eqBool_int (kat_go (fun e2=>kat_yes (kat_nil ?_)) fun e2=>kat_no ?_)))) fun e=>kat_no ?_))
 ·have e:(x.1:Int)=y.1:=by simpa using e
  have e2:(x.2:Int)=y.2:=by simpa using e2
  rw [show decide (x.1 * 8+x.2<y.1 * 8+y.2)=false from decide_eq_false (by omega)] at h
  exact h
 ·have e:(x.1:Int)=y.1:=by simpa using e
  refine kat_one _ _ (PyProof.Rows.lt_int ?_)
  rw [show decide (x.1 * 8+x.2<y.1 * 8+y.2)=decide ((x.2:Int)<y.2) from decide_eq_decide.mpr (by omega)] at h
  exact h
 ·have e:(x.1:Int)≠y.1:=by simpa using e
  refine oneLt_int ?_
  rw [show decide (x.1 * 8+x.2<y.1 * 8+y.2)=decide ((x.1:Int)<y.1) from decide_eq_decide.mpr (by omega)] at h
  exact h
end
end
section
open PySem PySem.W PySem.Calls PyProof.Rows
theorem pZ {ps:List (Nat×Nat)} (h:ps.length<2):gR ps=ps:=by
 rcases ps with _ | ⟨x,_ | ⟨y,ps⟩⟩
 ·unfold gR;simp
 ·unfold gR;simp
 ·exact absurd h (E3.mpr (JD 2 _))
theorem rP {vs:List Value} (h2:vs.length<2):(vs.toArray.zip vs.toArray).map (·.2)=(List.map (fun i=>vs.getD i FE) (EQ vs.length)).toArray:=by
 rcases vs with _ | ⟨v,_ | ⟨w,vs⟩⟩
 ·with_unfolding_all rfl
 ·with_unfolding_all rfl
 ·exact absurd h2 (E3.mpr (JD 2 _))
section
variable {prog:Fq} {w:World} {A:Around} {E:Value->Shared->Prop} {s:Shared}
theorem rY {a:Addr} {vs:List Value} {ps:List (Nat×Nat)} {n:Nat} {P:PySem.Fin->Shared->Prop} (ho:s.heap.get? a=some (seqObj "list" vs.toArray n)) (H:cw s.heap vs ps) (h5:ps.length<=5) (h8:∀ x∈ps,x.2<8)
  (h:∀ p:List Nat,(∀ i∈p,i<ps.length)->p.map (fun i=>ps.getD i (0,0))=gR ps->P (.done (.ret .none)) {s with heap:=sortedHeap s.heap a vs (p.map fun i=>vs.getD i FE).toArray}) :
  wpAny (model prog w) A (Ep.«list.sort» ⟨[.ref a],[]⟩) P E s:=by
 have hl:=H.1
 have ha:a<s.heap.objs.size:=Ed ho
 rw [list_sort_plain]
 refine ED (listItems_at ho rfl ?_)
 refine ED (LD ho rfl ?_ (by rw [Gv,ER];omega) (En _))
 obtain ⟨e1,ho1⟩:∃ e1,(s.heap.update a (FB fun zz=>(#[]:Array Value))).get? a=some (seqObj "list" #[] e1):=⟨_,get?_update_seq ho fun zz=>#[]⟩
 refine ED (Lo ho1 rfl ?_)
 refine ED (wpAny_newTuple ?_ (by show vs.length<=_;rw [ER];omega))
 refine ED (wpAny_newList ?_ (En _))
 refine E1 ?_
 have ho6:(((s.heap.update a (FB fun zz=>(#[]:Array Value))).push (seqObj "tuple" vs.toArray 0)).push (seqObj "list" #[] 0)).get? a=some (seqObj "list" #[] e1):=EM _ (EM _ ho1)
 have H6:cw (((s.heap.update a (FB fun zz=>(#[]:Array Value))).push (seqObj "tuple" vs.toArray 0)).push (seqObj "list" #[] 0)) vs ps:=H.mono fun t o ht hc=>by
  have' hne:t≠a:=by
   rintro rfl
   rw [ho] at ht
   have:=GF.inj ht
   rw [<- this] at hc
   exact absurd hc (by show ¬ Fa "list" = Fa "tuple";decide)
  exact EM _ (EM _ (by rw [Ge _ _ _ _ hne];exact ht))
 show wpAny (model prog w) A _ P E {s with heap:=((s.heap.update a (FB fun zz=>(#[]:Array Value))).push (seqObj "tuple" vs.toArray 0)).push (seqObj "list" #[] 0)}
 dsimp only
 by_cases h2:vs.toArray.size<2
 ·rw [if_pos h2,if_pos h2]
  rw [Gv] at h2
  refine ED (EI ?_)
  rw [StateT.run_pure]
  refine ED (EI ?_);dsimp only;refine ED (Lo ho6 rfl ?_);have' hout:(arrOf (SortSt.mk' general' (vs.toArray.zip vs.toArray) #[] 7 none)).map (·.2)=(List.map (fun i=>vs.getD i FE) (EQ vs.length)).toArray:=by
   exact rP h2
  rw [hout]
  refine ED (LD ho6 rfl ?_ (En _) (by rw [Gv,EF,FV,ER];omega))
  simp only [bne_self_eq_false,F6,if_false]
  refine EI (h (EQ vs.length) (fun i hi=>by rw [<- hl];exact Ef.mp hi) ?_)
  rw [pZ (by omega),hl]
  refine KJ (by simp) fun i h1 h2=>?_
  simp [GN,h2]
 ·rw [if_neg h2,if_neg h2]
  rw [Gv] at h2
  obtain ⟨fs,f1,f2,f3⟩:=H6.tups;refine ED (kat_kind (T:=.type "int") f1 (by omega) (fun v hv=>?_) (by decide) ?_)
  ·obtain ⟨n,t,rfl⟩:=f3 v hv
   exact .now
  rw [show (Fa "int" != Fa "tuple")=true by decide]
  obtain ⟨p,hrun,hpl,hps⟩:=uk (ps:=ps) (by omega) h5 h8
  refine ED (Es (kat_run (κ:=tuples' true) (ks:=vs) (vs:=vs) (G:=fun p' s'=>p'=p/\s'={s with heap:=((s.heap.update a (FB fun zz=>(#[]:Array Value))).push (seqObj "tuple" vs.toArray 0)).push (seqObj "list" #[] 0)})
   (Q:=fun st' s'=>p.size=vs.length/\arrOf st'=p.map (kas_item (vs.toArray.zip vs.toArray))/\failedOf st'=none/\s'={s with heap:=((s.heap.update a (FB fun zz=>(#[]:Array Value))).push (seqObj "tuple" vs.toArray 0)).push (seqObj "list" #[] 0)})
   rfl (by omega) (by omega) (fun p' st' s' a1 a2 a3 a4=>by obtain ⟨rfl,rfl⟩:=a4;exact ⟨a1,a2,a3,rfl⟩) (by
    rw [hl]
    exact uA (n:=ps.length) (fun i j hi hj C hC=>vF H6 h8 i j hi hj C hC) _ hrun ⟨rfl,rfl⟩)) ?_ fun zz zz e=>e)
  rintro ⟨⟨⟩,st'⟩ s' ⟨hp,har,hf,rfl⟩
  dsimp only;refine ED (Lo ho6 rfl ?_);have' hout:=kat_snds rfl har
  rw [hout]
  refine ED (LD ho6 rfl ?_ (En _) (by rw [Gv,EF,FQ,hp,ER];omega))
  rw [hf]
  simp only [bne_self_eq_false,F6,if_false]
  exact EI (h p.toList hpl hps)
theorem my {l:Addr} {vs:List Value} {ps:List (Nat×Nat)} {Q:Value->Shared->Prop} (hl:s.heap.IsList l vs.toArray) (H:cw s.heap vs ps) (h5:ps.length<=5) (h8:∀ x∈ps,x.2<8)
  (h:∀ p:List Nat,(∀ i∈p,i<ps.length)->p.map (fun i=>ps.getD i (0,0))=gR ps->Q (.ref (s.heap.objs.size+1)) {s with heap:=Kl s.heap vs (p.map fun i=>vs.getD i FE).toArray}) :
  wpAny (model prog w) A (call (.builtin "sorted") [.ref l]) Q E s:=by
 have hvl:=H.1
 refine Calls.call_function_entry kind_sorted plain_sorted entry_sorted (args_sorted1 _) ?_
 unfold Ep.«sorted»
 refine ED (m:=checkCount "sorted" 1 1 _) (EI ?_)
 refine ED (collect_list hl ?_ (by rw [ER];omega))
 refine ED (wpAny_newList ?_ (by show vs.length<=_;rw [ER];omega))
 have hsz:((s.heap.push (seqObj "list" #[] 0)).update s.heap.objs.size (FB (· ++ vs.toArray))).objs.size=s.heap.objs.size+1:=by rw [Gj,size_push']
 have hoL:(((s.heap.push (seqObj "list" #[] 0)).update s.heap.objs.size (FB (· ++ vs.toArray))).push (seqObj "list" vs.toArray 0)).get? (s.heap.objs.size+1)=some (seqObj "list" vs.toArray 0):=by
  rw [<- hsz];exact ES _ rfl
 have' H2:cw (((s.heap.push (seqObj "list" #[] 0)).update s.heap.objs.size (FB (· ++ vs.toArray))).push (seqObj "list" vs.toArray 0)) vs ps:=H.mono fun t o ht zz=>by
  have' hlt:=Ed ht;exact EM _ (by rw [Ge _ _ _ _ (FG hlt)];exact EM _ ht)
 show wpAny _ _ _ _ _ {s with heap:=((s.heap.push (seqObj "list" #[] 0)).update s.heap.objs.size (FB (· ++ vs.toArray))).push (seqObj "list" vs.toArray 0)}
 rw [hsz]
 refine ED (E1 (KC slot_list_sort ⟨_,hoL,rfl⟩ entry_list_sort (rY hoL H2 h5 h8 fun p a1 a2=>⟨_,rfl,?_⟩) (args_list_sort _)))
 exact EI ⟨_,rfl,h p a1 a2⟩
end
theorem m0 {h:Heap} {vs:List Value} {ds:List PyData} {as:List Addr} (q:FZ h vs ds as) (i:Nat) (d:PyData) (e:ds[i]? = some d):∃ v bs,vs[i]? = some v/\Reads h v d bs:=by
 induction ds generalizing vs as i with
 | nil=>cases e
 | cons d' ds ih=>cases q using RA1 with
  | cons r t=>cases i with
   | zero=>cases e;exact ⟨_,_,rfl,r⟩
   | succ i=>exact ih t i e
theorem wk {h:Heap} {α:Type} {f:α->Value} {g:α->PyData}:∀ (l:List α),(∀ x∈l,∃ bs,Reads h (f x) (g x) bs)->∃ as,FZ h (l.map f) (l.map g) as:=by
 intro l
 induction l with
 | nil=>exact fun zz=>⟨_,.nil⟩
 | cons x l ih=>
  intro H;obtain ⟨bs,r⟩:=H x (.head _);obtain ⟨as,rs⟩:=ih fun y hy=>H y (.tail _ hy)
  exact ⟨_,.cons r rs⟩
theorem cw.of {h:Heap} {vs:List Value} {ps:List (Nat×Nat)} {as:List Addr} {A:List Addr} (r:FZ (cL A h) vs (ps.map pD) as):cw h vs ps:=by
 refine ⟨(a9 r).trans (EF ..),fun i x hx=>?_⟩
 obtain ⟨v,bs,hv,rv⟩:=m0 r i (pD x) (by rw [Em,hx];rfl)
 unfold pD at rv
 cases rv using RT with
 | @tuple t o items m _ ho hc hd hr=>
  have hlen:items.size=2:=a9 hr;obtain ⟨v1,v2,hvs⟩:∃ v1 v2,items.toList=[v1,v2]:=by
   rcases e:items.toList with _ | ⟨v1,_ | ⟨v2,_ | ⟨v3,r⟩⟩⟩<;>rw [<- FQ,e] at hlen<;>first | exact ⟨_,_,rfl⟩ | simp at hlen
  rw [hvs] at hr
  cases hr using RA1 with
  | cons r1 hr=>cases hr using RA1 with
   | cons r2 hr=>
    cases r1 using RI with
    | int t1=>cases r2 using RI with
     | int t2=>
      refine ⟨t,o,m,t1,t2,hv,Ez _ ho,hc,?_⟩
      rw [hd]
      congr 1
      exact Array.toList_inj.mp hvs
section
variable {C:Cx} {lv:Lv} {σ:aC}
theorem qz {ps:List (Nat×Nat)} (h5:ps.length<=5) (h8:∀ x∈ps,x.2<8):fH C lv σ (.builtin "sorted") [.dat (.list (ps.map pD))] (.list ((gR ps).map pD)):=by
 intro A μ s vs Q E ok G r hQ
 obtain ⟨v,rfl,⟨as,rv⟩⟩:=r.e1
 cases rv using RL with
 | @list l o items n as ho hc hd hr=>
  have hlen:items.size=ps.length:=(a9 hr).trans (EF ..);have' hl:s.heap.IsList l items.toList.toArray:=⟨o,Ez _ ho,hc,n,by simpa using hd⟩
  refine ao (my hl (cw.of hr) h5 h8 fun p hp e hsz=>?_)
  obtain ⟨e1,he⟩:=sortedAll_at s.heap items.toList (p.map fun i=>items.toList.getD i FE).toArray
  have k:aL A0 NoW s {s with heap:=Kl s.heap items.toList (p.map fun i=>items.toList.getD i FE).toArray}:=ab (tk:=s.toks) hsz fun b o q=>sortedAll_old q
  obtain ⟨cs,z⟩:=wk (h:=cL μ.hid (Kl s.heap items.toList (p.map fun i=>items.toList.getD i FE).toArray)) (f:=fun i=>items.toList.getD i FE) (g:=fun i=>pD (ps.getD i (0,0))) p fun i hi=>by
   have hip:=hp i hi;obtain ⟨v,bs,hv,rv⟩:=m0 hr i (pD (ps.getD i (0,0))) (by rw [Em];simp [GN,hip])
   refine ⟨bs,?_⟩
   rw [show items.toList.getD i FE=v by rw [GN,hv];rfl]
   exact PyProof.Rows.Reads.keeps (cU k) rv
  have e2:(gR ps).map pD=p.map fun i=>pD (ps.getD i (0,0)):=by rw [<- e,ET];rfl
  rw [e2] at hQ
  exact hQ _ _ _ k (.list (Fc _ he fun hm=>absurd (G.lt _ hm) (E3.mpr (Ej _))) rfl rfl (by simpa using z))
end
end
theorem vN:∀ {n:Nat} {l:List Nat},(∀ p,p<n->p∈l)->n<=l.length:=by
 intro n
 induction n with
 | zero=>exact fun zz=>En _
 | succ n ih=>
  intro l h;have hf:=ih (l:=l.filter fun i=>true && !(i==n)) fun p hp=>FM.mpr ⟨h p (HJ hp),by
   have:p≠n:=FG hp
   simp [this]⟩
  have' hd:=jq (P:=fun zz=>true) (v:=n) rfl l (h n (E6 _))
  rw [show l.filter (fun zz=>true)=l from GP.mpr fun zz zz=>rfl] at hd
  omega
theorem pU {n:Nat} {l:List Nat} (hn:l.Nodup) (hl:∀ x∈l,x<n) (hlen:l.length=n):∀ p,p<n->p∈l:=fun p hp=>by
 by_cases q:p∈l
 ·exact q
 ·have:=fU (n:=n) (l:=p :: l) (GI.mpr ⟨q,hn⟩) fun x hx=>by
   rcases EV.mp hx with rfl | hx
   ·exact hp
   ·exact hl x hx
  rw [E0] at this;omega
set_option genInjectivity false in
structure Ob where
 nds:List Nd
 rd:List Nat
 w:List (Nat×Nat)
 told:List Nat
noncomputable def obW (row:List Nat) (s:Ob):List (Nat×Nat):=gR (s.w++s.rd.map fun p=>(row.getD p 0,p))
noncomputable def gj (row:List Nat) (s:Ob):Ob:=match obW row s with
 | []=>⟨s.rd.foldl (bN (-1)) s.nds,[],[],s.told⟩
 | x :: w=>⟨(av (s.rd.foldl (bN (-1)) s.nds,[]) x.2).1,(av (s.rd.foldl (bN (-1)) s.nds,[]) x.2).2,w,s.told++[x.2]⟩
noncomputable def bK (row:List Nat) (b:Nat->Nat->Bool):Nat->Ob
 | 0=>⟨bo row b 5,cC (bo row b 5),[],[]⟩
 | t+1=>gj row (bK row b t)
noncomputable def dz (row:List Nat) (b:Nat->Nat->Bool):List Nat:=(bK row b 5).told.map fun p=>row.getD p 0
structure iK (row:List Nat) (b:Nat->Nat->Bool) (s:Ob):Prop where
 sj:SJ 5 (bA row b) (fun p=>s.told.contains p) (fun p=>(s.w.map (·.2)).contains p) s.nds s.rd
 wn:(s.w.map (·.2)).Nodup
 wl:∀ x∈s.w,x.1=row.getD x.2 0
 tn:s.told.Nodup
section
variable {row:List Nat} {b:Nat->Nat->Bool} {s:Ob}
theorem iK.t5 (h:iK row b s):∀ p∈s.told,p<5:=fun p hp=>(h.sj.cl p (.inl (by simpa using hp))).1
theorem iK.w5 (h:iK row b s):∀ x∈s.w,x.2<5:=fun x hx=>(h.sj.cl x.2 (.inr (by simpa using ⟨x.1,hx⟩))).1
theorem iK.all (h:iK row b s) (e1:s.w=[]) (e2:s.rd=[]):∀ p,p<5->p∈s.told:=by
 intro p
 induction p using JG with
 | ind p ih=>
  intro hp
  by_cases q:p∈s.told
  ·exact q
  ·have:p∈s.rd:=(h.sj.rd_ p).mpr ⟨hp,by simpa using q,by rw [e1];rfl,fun r hr=>by
    have hl:=(cJ row b).lt _ _ hr
    simpa using ih r hl (Ht hl hp)⟩
   rw [e2] at this;cases this
theorem iK.allW (h:iK row b s):((s.w++s.rd.map fun p=>(row.getD p 0,p)).map (·.2)).Nodup/\(∀ x∈s.w++s.rd.map fun p=>(row.getD p 0,p),x.2<5/\x.1=row.getD x.2 0):=by
 refine ⟨?_,fun x hx=>?_⟩
 ·rw [Ek,ET]
  rw [show s.rd.map ((fun x:Nat×Nat=>x.2) ∘ fun p=>(row.getD p 0,p))=s.rd by rw [show ((fun x:Nat×Nat=>x.2) ∘ fun p=>(row.getD p 0,p))=id from rfl,List.map_id]]
  rw [GC]
  refine ⟨h.wn,h.sj.rdn,fun a ha c hc e=>?_⟩
  subst e;have:=((h.sj.rd_ a).mp hc).2.2.1
  rw [FN.mpr ha] at this;cases this
 ·rcases EG.mp hx with hx | hx
  ·exact ⟨h.w5 x hx,h.wl x hx⟩
  ·obtain ⟨p,hp,rfl⟩:=EO.mp hx
   exact ⟨h.sj.rdlt p hp,rfl⟩
theorem iK.len5 (h:iK row b s):(s.w++s.rd.map fun p=>(row.getD p 0,p)).length<=5:=by
 have:=fU h.allW.1 fun x hx=>by
  obtain ⟨y,hy,rfl⟩:=EO.mp hx;exact (h.allW.2 y hy).1
 simpa using this
theorem iK.obW_ne (h:iK row b s) (ht:s.told.length<5):obW row s≠[]:=by
 intro e
 have' e':s.w++s.rd.map (fun p=>(row.getD p 0,p))=[]:=by
  have:=(fi (s.w++s.rd.map fun p=>(row.getD p 0,p))).length_eq
  unfold obW at e
  rw [e] at this
  exact GQ this.symm
 obtain ⟨e1,e2⟩:=List.append_eq_nil_iff.mp e'
 have:=vN (h.all e1 (HV.mp e2))
 omega
theorem iK.turn (h:iK row b s) {x:Nat×Nat} {w:List (Nat×Nat)} (e:obW row s=x :: w):gj row s=⟨(av (s.rd.foldl (bN (-1)) s.nds,[]) x.2).1,(av (s.rd.foldl (bN (-1)) s.nds,[]) x.2).2,w,s.told++[x.2]⟩/\iK row b (gj row s) /\
  SJ 5 (bA row b) (fun p=>s.told.contains p) (fun p=>((x :: w).map (·.2)).contains p) (s.rd.foldl (bN (-1)) s.nds) []/\x.2<5/\x.1=row.getD x.2 0/\∀ y∈w,x.1<=y.1:=by
 have ht:gj row s=⟨(av (s.rd.foldl (bN (-1)) s.nds,[]) x.2).1,(av (s.rd.foldl (bN (-1)) s.nds,[]) x.2).2,w,s.told++[x.2]⟩:=by unfold gj;rw [e]
 have hperm:(x :: w).Perm (s.w++s.rd.map fun p=>(row.getD p 0,p)):=by rw [<- e];exact fi _
 have hsort:(x :: w).Pairwise fun x y=>eP x<=eP y:=by rw [<- e];exact jN _
 obtain ⟨a1,a2⟩:=h.allW
 have hn:((x :: w).map (·.2)).Nodup:=(hperm.map _).nodup_iff.mpr a1
 have hw:∀ y∈x :: w,y.2<5/\y.1=row.getD y.2 0:=fun y hy=>a2 y (hperm.mem_iff.mp hy)
 have So:=h.sj.out
 have' eO:(fun p=>(s.w.map (·.2)).contains p || s.rd.contains p)=fun p=>((x :: w).map (·.2)).contains p:=by
  funext p
  rw [FY,Gy,FN,FN,FN,(hperm.map (·.2)).mem_iff,Ek,EG]
  refine or_congr Iff.rfl ?_
  simp
 rw [eO] at So
 have Sd:=So.done (cJ row b) (i:=x.2) (by simp)
 rw [E9,GI] at hn
 have' eD:(fun p=>s.told.contains p || p==x.2)=fun p=>(s.told++[x.2]).contains p:=by
  funext p
  rw [FY];simp
 have' eO2:(fun p=>((x :: w).map (·.2)).contains p && !(p==x.2))=fun p=>(w.map (·.2)).contains p:=by
  funext p
  rw [FY,Ea,FN,FN,E9,EV]
  constructor
  ·rintro ⟨q | q,r⟩
   ·rw [q] at r;simp at r
   ·exact q
  ·intro q
   refine ⟨.inr q,?_⟩;have:p≠x.2:=fun e=>hn.1 (e▸q)
   simpa using this
 rw [eD,eO2] at Sd
 refine ⟨ht,?_,So,(hw x (.head _)).1,(hw x (.head _)).2,fun y hy=>?_⟩
 ·rw [ht]
  refine ⟨Sd,hn.2,fun y hy=>(hw y (.tail _ hy)).2,?_⟩
  show (s.told++[x.2]).Nodup
  rw [GC]
  refine ⟨h.tn,by simp,fun a ha c hc q=>?_⟩
  rw [show c=x.2 by simpa using hc] at q
  have:=So.dj a (by simpa using ha)
  rw [q] at this
  simp at this
 ·have:=(Fh.mp hsort).1 y hy
  have h1:=(hw x (.head _)).1;have h2:=(hw y (.tail _ hy)).1;unfold eP at this
  omega
end
theorem gi (row:List Nat) (b:Nat->Nat->Bool):∀ t,t<=5->iK row b (bK row b t)/\(bK row b t).told.length=t:=by
 intro t
 induction t with
 | zero=>
  intro _;refine ⟨⟨?_,.nil,jI,.nil⟩,rfl⟩;have e:(fun p=>(bK row b 0).told.contains p)=no:=by funext p;rfl
  have e2:(fun p=>((bK row b 0).w.map (·.2)).contains p)=no:=by funext p;rfl
  rw [e,e2];exact jK row b 5
 | succ t ih0=>
  intro ht;obtain ⟨h1,h2⟩:=ih0 (G6 ht);have' hne:=h1.obW_ne (by omega)
  cases e:obW row (bK row b t) with
  | nil=>exact absurd e hne
  | cons x w=>
   obtain ⟨a,c,_⟩:=h1.turn e;refine ⟨c,?_⟩
   show (gj row (bK row b t)).told.length=t+1
   rw [a];simp [h2]
theorem yH (row:List Nat) (b:Nat->Nat->Bool):(bK row b 5).rd=[]/\(bK row b 5).w=[]/\∀ p,p<5->p∈(bK row b 5).told:=by
 obtain ⟨h1,h2⟩:=gi row b 5 (EK _)
 have hall:=pU h1.tn h1.t5 h2
 refine ⟨?_,?_,hall⟩
 ·refine GO.mpr fun p hp=>?_
  obtain ⟨a,c,_⟩:=(h1.sj.rd_ p).mp hp;have:=hall p a
  simp [this] at c
 ·refine GO.mpr fun x hx=>?_
  have h5:=h1.w5 x hx;have:=h1.sj.dj x.2 (by simpa using hall _ h5)
  rw [FN.mpr (EO.mpr ⟨x,hx,rfl⟩)] at this
  cases this
theorem sI {α:Type} {C:Cx} {lv:Lv} {N:aF} {t:Expr} {body:List Stmt} {xs:List α} {v:α->AV} {P:List α->aO} {r:List α->α->aO} {S:List α->aC} (ha:∀ pre x post,xs=pre++x :: post->ci C lv N t (v x) (P pre) (S pre) (r pre x) (S pre))
  (hb:∀ pre x post,xs=pre++x :: post->aw C lv N body (r pre x) (S pre) .nxt (P (pre++[x])) (S (pre++[x]))):fc C lv N t body [] (xs.map v) (P []) (S []) .nxt (P xs) (S xs):=by
 suffices h:∀ pre post,xs=pre++post->fc C lv N t body [] (post.map v) (P pre) (S pre) .nxt (P xs) (S xs) from h [] xs rfl
 intro pre post
 induction post generalizing pre with
 | nil=>intro e;rw [FH] at e;rw [e];exact .done aH
 | cons x post ih=>
  intro e;exact .turn (ha pre x post e) (hb pre x post e) (.inl rfl) Sub.refl (ih (pre++[x]) (by rw [e];simp))
theorem A8 (l:List (Nat×Nat)):∀ d∈l.map pD,wj d=true:=fun d hd=>by
 obtain ⟨x,_,rfl⟩:=EO.mp hd;rfl
section
variable {C:Cx} (H:bH C) {fz:List Nat} {σ:aC}
include H
theorem rT {row:List Nat} {b:Nat->Nat->Bool} (hr:row.length=5) (hr4:∀ x∈row,x<4) (hfz:∀ i∈fz,i<σ.length) :
  aP C 8 fz (.ref 935) [.dat (be row),.dat (dB b)] [] σ (.dat (be (dz row b))) σ:=by
 have hz13:σ.length+13∉fz:=fun h=>by have:=hfz _ h;omega
 have hz14:σ.length+14∉fz:=fun h=>by have:=hfz _ h;omega
 have' hrow:be row=.list (row.map nD):=rfl
 have hrl:(row.map nD).length<=FI:=by rw [EF,ER];omega
 obtain ⟨g,hg⟩:∃ g:Nat->AV,∀ p,g p=AV.dat (nD (row.getD p 0)):=⟨_,fun zz=>rfl⟩
 obtain ⟨S,hS⟩:∃ S:List Nat->aC,∀ q,S q=so5 σ (bK row b q.length).rd ((q.length:Int)+((bK row b q.length).w.length:Nat)) q.length (bK row b q.length).nds [.list (am (1+q.length)),.list ((bK row b q.length).told.map g)]:=⟨_,fun zz=>rfl⟩
 obtain ⟨V,hV⟩:∃ V:List Nat->PyData,∀ q,V q=.list ((bK row b q.length).w.map pD):=⟨_,fun zz=>rfl⟩
 obtain ⟨R,hR⟩:∃ R:List Nat->aO,∀ q,R q=[some (.dat (be row)),some (.dat (dB b)),some (.ref σ.length),some (.ref (σ.length+13)),some (.dat (V q)),some (.ref (σ.length+14)),none,none,none,none,none,none]:=⟨_,fun zz=>rfl⟩
 have hL:∀ t,t<=5->(bK row b t).nds.length=5:=fun t ht=>(gi row b t ht).1.sj.len
 have hend:S (EQ 5)=σ++(bd σ.length (.ref (σ.length+2+2 * (bK row b 5).nds.length)) ((5:Int)+((bK row b 5).w.length:Nat)) 5 (bK row b 5).nds++(.list ((bK row b 5).rd.map bX) :: [.list (am (1+5)),.list ((bK row b 5).told.map g)])):=by rw [hS,FV];rfl
 refine aP.pure (t:=bd σ.length (.ref (σ.length+2+2 * (bK row b 5).nds.length)) ((5:Int)+((bK row b 5).w.length:Nat)) 5 (bK row b 5).nds++(.list ((bK row b 5).rd.map bX) :: [.list (am (1+5)),.list ((bK row b 5).told.map g)])) (a:=.ref (σ.length+14)) ?_ ?_
 ·rw [<- hend]
  wtm_at "Dp"
  case hr=>exact .ret
  case h=>
   dsimp only;refine' aA (σ₁:=σ++(bd σ.length (.dat .none) 0 0 (bo row b 5)++[])) ?s1 (aA (σ₁:=so5 σ (cC (bo row b 5)) 0 0 (bo row b 5) [.list (am 1)]) ?s2 (aA (σ₁:=so5 σ (cC (bo row b 5)) 0 0 (bo row b 5) [.list (am 1)]) ?s3 (aA (σ₁:=S []) ?s4 (aA (ρ₁:=R (EQ 5)) (σ₁:=S (EQ 5)) ?s5 (aA (σ₁:=S (EQ 5)) ?s6 (a8 (aT ?s7)))))))
   case s1=>
    refine' aB ?v ?t
    case v=>
     refine' ah ?f (kp_ H (by kernel_rfl)) (aZ ?l (by with_unfolding_all rfl)) (kC H hr hr4 hfz) (by show 7<=7;decide) rfl (by intro _;with_unfolding_all rfl)
     case f=>wtm_at "Me"
     case l=>wtm_at "Ml"
    case t=>wtm_at "Ma"
   case s2=>
    refine' aB (a:=.ref (σ.length+13)) (σ₁:=so5 σ (cC (bo row b 5)) 0 0 (bo row b 5) [.list (am 1)]) ?v ?t
    case v=>
     have' S0:=jK row b 5;have cp:=m4 H (fz:=fz) (Z:=σ) (po:=0) (nf:=0) (nds:=bo row b 5) (by rw [cV];decide) (S0.ac (cJ row b)) hfz
     refine' aG.st (aG.of (cK (as:=[.dat .none]) ?w ?w2) ?w3) ?w4
     case w=>
      refine' bF (bC ?ho (bB dH (bw H) (fd_ H (by kernel_rfl)) (fn_ H (by kernel_rfl)) rfl) (kp_ H (by kernel_rfl)) b7 cp (by show 3<=7;decide) rfl (by intro _;exact ⟨_,rfl⟩)) bR (by with_unfolding_all rfl)
      case ho=>wtm_at "Me"
     case w2=>decide
     case w3=>rw [nK,cV];rfl
     case w4=>rw [nN];rfl
    case t=>wtm_at "Ma"
   case s3=>
    refine' aB (a:=.dat (V [])) ?v ?t
    case v=>
     rw [hV,show ((bK row b ([]:List Nat).length).w.map pD)=[] from rfl]
     refine' fT ?k1 ?k2 ?k3
     case k1=>wtm_at "Ml"
     case k2=>wtm_at "Mdats"
     case k3=>wtm_at "Mside"
    case t=>wtm_at "Ma"
   case s4=>
    refine' aB (a:=.ref (σ.length+14)) (σ₁:=S []) ?v ?t
    case v=>
     refine' aG.st (aG.of (cK ?w ?w2) ?w3) ?w4
     case w=>wtm_at "Ml"
     case w2=>decide
     case w3=>rw [nK,cV];rfl
     case w4=>rw [nN,hS];rfl
    case t=>wtm_at "Ma"
   case s5=>
    refine' bf (ls:=[]) ?hi ?hf ?hfs
    case hi=>
     have h1:(5:Int)<2 ^ 62:=by decide
     have h2:-(2 ^ 62)<=(5:Int):=by decide
     wtm_at "Mi"
    case hfs=>intro _ _;rfl
    case hf=>
     rw [show ((5:Int)).toNat=5 from rfl,dG]
     dsimp only [EZ]
     rw [show [some (AV.dat (be row)),some (.dat (dB b)),some (.ref σ.length),some (.ref (σ.length+13)),some (.dat (V [])),some (.ref (σ.length+14)),none,none,none,none,none,none]=R [] from (hR []).symm]
     refine' sI (S:=S) (P:=R) (r:=fun pre x=>[some (.dat (be row)),some (.dat (dB b)),some (.ref σ.length),some (.ref (σ.length+13)),some (.dat (V pre)),some (.ref (σ.length+14)),some (.dat (.int (x:Int))),none,none,none,none,none]) ?ha ?hb
     case ha=>intro pre p post hx;rw [hR];wtm_at "Ma"
     case hb=>
      intro pre p post hx;obtain ⟨hpl,hp5⟩:=eK hx;subst hpl;obtain ⟨J,hJl⟩:=gi row b pre.length (by omega)
      have' hne:=J.obW_ne (by omega)
      obtain ⟨x,w,ew⟩:∃ x w,obW row (bK row b pre.length)=x :: w:=by
       cases e:obW row (bK row b pre.length) with
       | nil=>exact absurd e hne
       | cons x w=>exact ⟨x,w,rfl⟩
      obtain ⟨eT,JT,So,x5,xr,_⟩:=J.turn ew;have hl5:=J.sj.len;have hlen5:=J.len5;have hw8:∀ y∈(bK row b pre.length).w++(bK row b pre.length).rd.map (fun p=>(row.getD p 0,p)),y.2<8:=fun y hy=>by have:=(J.allW.2 y hy).1;omega
      have hperm:=fi ((bK row b pre.length).w++(bK row b pre.length).rd.map (fun p=>(row.getD p 0,p)))
      have hT:bK row b (pre.length+1)=gj row (bK row b pre.length):=rfl;have hT5:(bK row b (pre.length+1)).nds.length=5:=JT.sj.len
      rw [hS,hS,hR,hV,hV,EX,Ei]
      rw [hT,eT] at hT5 ⊢
      unfold obW at ew
      rw [ew] at hperm
      generalize bK row b pre.length=ob at *
      obtain ⟨nds,rd,w0,told⟩:=ob;dsimp only at *
      have' hw0:(w0.map pD).length+(rd.map fun p=>pD (row.getD p 0,p)).length<=FI:=by
       rw [EX,EF] at hlen5
       rw [EF,EF,ER];omega
      have hwl:(x :: w).length<=5:=by rw [hperm.length_eq];exact hlen5
      have hwl2:w.length+1=w0.length+rd.length:=by
       have:=hperm.length_eq
       rw [EX,EF] at this
       simpa using this
      rw [E0] at hwl
      have hrd5:=J.sj.rdl;have hl5':=eM (-1) rd nds
      rw [hl5] at hl5'
      have hst:=So.st (cJ row b) (is:=[x.2]) (by simp) fun i hi=>by rw [EJ.mp hi];simp
      have cg:=kx H (fz:=fz) (Z:=σ) (post:=[.list (am (1+pre.length)),.list (told.map g)]) (rd:=rd) (po:=(pre.length:Int)+(w0.length:Nat)) (nf:=pre.length) (nds:=nds) (fun p hp=>by rw [hl5];exact J.sj.rdlt p hp) (by omega) (by omega) hfz
      have' e1:(pre.length:Int)+(w0.length:Nat)+rd.length=((pre.length+1:Nat):Int)+(w.length:Nat):=by omega
      have cd:aP C 2 fz (.ref 143) [.ref σ.length,.dat (.int (x.2:Nat))] [] (so5 σ [] (((pre.length+1:Nat):Int)+(w.length:Nat)) pre.length (rd.foldl (bN (-1)) nds) [.list (am (1+pre.length)),.list (told.map g++[g x.2])]) (.dat .none) (so5 σ (av (rd.foldl (bN (-1)) nds,[]) x.2).2 (((pre.length+1:Nat):Int)+(w.length:Nat)) ((pre.length+1:Nat):Int) (av (rd.foldl (bN (-1)) nds,[]) x.2).1 [.list (am (1+pre.length)),.list (told.map g++[g x.2])]):=
       xX H (fz:=fz) (Z:=σ) (post:=[.list (am (1+pre.length)),.list (told.map g++[g x.2])]) (rd:=[]) (po:=((pre.length+1:Nat):Int)+(w.length:Nat)) (nf:=pre.length) (nds:=rd.foldl (bN (-1)) nds) (is:=[x.2]) (by simp) (by decide) (by omega) (fun x hx=>EH (So.scl x hx) (by decide)) So.scn hst hfz
      rw [e1] at cg
      refine' aw.sub (aA (σ₁:=so5 σ [] (((pre.length+1:Nat):Int)+(w.length:Nat)) pre.length (rd.foldl (bN (-1)) nds) [.list (am (1+pre.length)),.list (told.map g)]) ?a1 (aA (ρ₁:=[some (.dat (be row)),some (.dat (dB b)),some (.ref σ.length),some (.ref (σ.length+13)),some (.dat (.list ((x :: w).map pD))),some (.ref (σ.length+14)),some (.dat (.int (pre.length:Int))),none,none,none,none,none]) (σ₁:=so5 σ (av (rd.foldl (bN (-1)) nds,[]) x.2).2 (((pre.length+1:Nat):Int)+(w.length:Nat)) ((pre.length+1:Nat):Int) (av (rd.foldl (bN (-1)) nds,[]) x.2).1 [.list (am (1+(pre.length+1))),.list ((told++[x.2]).map g)]) ?a2 (aE ?a3))) ?sb
      case a1=>
       refine' aB (a:=.dat (.list ((x :: w).map pD))) ?v9 ?t9
       case v9=>
        rw [<- ew]
        refine' cu ?f ?l (qz hlen5 hw8) (by with_unfolding_all rfl)
        case f=>wtm_at "Me"
        case l=>
         refine' bF (aG.of (cx (a:=.dat (.list (w0.map pD))) (b:=.dat (.list (rd.map fun p=>pD (row.getD p 0,p)))) ?k1 ?k2 (OpG.of2 (kb hw0))) ?e) bR (by with_unfolding_all rfl)
         case k1=>wtm_at "Me"
         case e=>rw [Ek,ET];rfl
         case k2=>
          refine' dN ?ck ?hi ?hfr ?hcl ?hbl ?hc ?hz ?hfs
          case ck=>wtm_at "Mcompok"
          case hi=>
           refine' lU ?k (by with_unfolding_all rfl) (by with_unfolding_all rfl)
           case k=>
            refine' bC ?ho (bB cO (bw H) (fd_ H (by kernel_rfl)) (fn_ H (by kernel_rfl)) rfl) (kp_ H (by kernel_rfl)) b7 cg (by show 2<=7;decide) rfl (by intro _;exact ⟨_,rfl⟩)
            case ho=>wtm_at "Me"
          case hfs=>intro _ _;rfl
          case hfr=>wtm_at "Mfrees"
          case hcl=>wtm_at "Mclos"
          case hbl=>wtm_at "Mblank"
          case hz=>rw [EF,ER];omega
          case hc=>
           rw [ET]
           refine' cN rfl ?ha ?hee ?hs
           case ha=>intro i hx;dsimp only [Function.comp];wtm_at "Ma"
           case hee=>
            intro i hx;have hi5:=J.sj.rdlt i hx;have h0:(0:Int)<=(i:Int):=E7 i;have h4:(i:Int)<2 ^ 63:=by omega
            have hd:=gC (row:=row) (p:=i) (by omega)
            rw [hrow]
            unfold pD;dsimp only [Function.comp];wtm_at "Me"
           case hs=>intro i hx;wtm_at "Msub"
       case t9=>wtm_at "Ma"
      case a2=>
       refine' bf (ls:=[]) (items:=[.dat (pD x)]) ?hi ?hf ?hfs
       case hfs=>intro _ _;rfl
       case hi=>
        have hsz:((x :: w).map pD).length<=FI:=by rw [EF,E0,ER];omega
        refine' fg (ds:=[pD x]) (aG.of (jX ?k1 ?k2 ?k3 hsz (by intro _ _;with_unfolding_all rfl)) ?e) (by with_unfolding_all rfl) (.tup (by with_unfolding_all rfl) (A8 [x]))
        case k1=>wtm_at "Me"
        case k2=>wtm_at "Mpart"
        case k3=>wtm_at "Mpart"
        case e=>rfl
       case hf=>
        dsimp only [EZ];refine' fc.turn (mu ?t1 ?t2 (by with_unfolding_all rfl) (by intro _;with_unfolding_all rfl)) (aA (σ₁:=so5 σ [] (((pre.length+1:Nat):Int)+(w.length:Nat)) pre.length (rd.foldl (bN (-1)) nds) [.list (am (1+pre.length)),.list (told.map g++[g x.2])]) ?b1 (aE ?b2)) (.inl rfl) ?sb2 (.done aH)
        case t1=>unfold nD;wtm_at "Ma"
        case t2=>unfold nD;wtm_at "Ma"
        case b1=>
         refine' aq.st (bO (ba (i:=σ.length+14) (xs:=told.map g) (a:=g x.2) ?ho ?hv ⟨_,tp hl5'⟩ (tp hl5') hz14 ?hsz)) (tL hl5')
         case ho=>wtm_at "Me"
         case hsz=>rw [EF,ER];omega
         case hv=>rw [hg,<- xr];unfold nD;wtm_at "Me"
        case b2=>
         refine' aq.st (bO (ba (i:=σ.length+13) (xs:=am (1+pre.length)) (a:=.dat .none) ?ho ?hv ⟨_,ng hl5'⟩ (ng hT5) hz13 ?hsz)) ?he
         case ho=>wtm_at "Me"
         case hsz=>unfold am;rw [Gh,ER];omega
         case he=>
          rw [ny hT5,gf,Ek]
          rfl
         case hv=>
          refine' bC ?ho2 (bB cO (bw H) (fd_ H (by kernel_rfl)) (fn_ H (by kernel_rfl)) rfl) (kp_ H (by kernel_rfl)) (aZ ?l2 ?hn2) cd (by show 2<=7;decide) rfl (by intro _;exact ⟨_,rfl⟩)
          case ho2=>wtm_at "Me"
          case l2=>wtm_at "Ml"
          case hn2=>with_unfolding_all rfl
        case sb2=>wtm_at "Msub"
      case a3=>
       have hsz:((x :: w).map pD).length<=FI:=by rw [EF,E0,ER];omega
       refine' aB (a:=.dat (.list (w.map pD))) (aG.of (jX ?k1 ?k2 ?k3 hsz (by intro _ _;with_unfolding_all rfl)) ?e) ?t9
       case k1=>wtm_at "Me"
       case k2=>wtm_at "Mpart"
       case k3=>wtm_at "Mpart"
       case e=>rfl
       case t9=>wtm_at "Ma"
      case sb=>wtm_at "Msub"
   case s6=>
    have' hl5:=hL 5 (EK _);obtain ⟨n1,n2,_⟩:=yH row b;have cb:=gH H (fz:=fz) (Z:=σ) (post:=[.list (am (1+5)),.list ((bK row b 5).told.map g)]) (rd:=(bK row b 5).rd) (po:=(5:Int)+((bK row b 5).w.length:Nat)) (nf:=5) (nds:=(bK row b 5).nds) (by rw [n1];decide)
    have eS:S (EQ 5)=so5 σ (bK row b 5).rd ((5:Int)+((bK row b 5).w.length:Nat)) 5 (bK row b 5).nds [.list (am (1+5)),.list ((bK row b 5).told.map g)]:=by rw [hS,FV];rfl
    rw [eS,hR]
    have hsA:(so5 σ (bK row b 5).rd ((5:Int)+((bK row b 5).w.length:Nat)) 5 (bK row b 5).nds [.list (am (1+5)),.list ((bK row b 5).told.map g)])[σ.length+13]? = some (.list ((FO 6 JC).map .dat)):=by rw [ng hl5];rfl
    refine' aN (aY.of (fA (aY.of (ai ?l ?r (OpG.see (ir (eH 6 (by decide)) (eH 6 (by decide))) (Frz.dats (En _) hsA) .dat)) ?e1) ?y) ?e2) aH
    case l=>wtm_at "Me"
    case r=>
     refine' aG.of (cx ?b1 ?b2 (OpG.of2 (xd (m:=6) (d:=.none) (by decide) (by decide)))) ?b3
     case b1=>
      refine' fT ?k1 ?k2 ?k3
      case k1=>wtm_at "Ml"
      case k2=>wtm_at "Mdats"
      case k3=>wtm_at "Mside"
     case b2=>wtm_at "Me"
     case b3=>rfl
    case e1=>rw [mP _ (by decide)];rfl
    case y=>
     refine' ai (bC ?ho (bB cO (bw H) (fd_ H (by kernel_rfl)) (fn_ H (by kernel_rfl)) rfl) (kp_ H (by kernel_rfl)) b7 cb (by show 2<=7;decide) rfl (by intro _;exact ⟨_,rfl⟩)) fV (OpG.of2 (lE rfl))
     case ho=>wtm_at "Me"
    case e2=>rw [n1,n2];rfl
   case s7=>wtm_at "Me"
 ·have' e:=tp (Z:=σ) (rd:=(bK row b 5).rd) (po:=((5:Int)+((bK row b 5).w.length:Nat))) (nf:=5) (nds:=(bK row b 5).nds) (x:=.list (am (1+5))) (y:=.list ((bK row b 5).told.map g)) (hL 5 (EK _))
  refine Frz.dats (EP _ _) (e.trans ?_);unfold dz
  rw [ET,ET]
  congr 2
  exact FR fun q zz=>hg q
end
structure Bd (b:Nat->Nat->Bool):Prop where
 refl:∀ x,b x x=true
 symm:∀ x y,b x y=b y x
theorem iX:∀ {a c:List Nat},a.Pairwise (· < ·)->c.Pairwise (· < ·)->(∀ x,x∈a↔x∈c)->a=c:=by
 intro a
 induction a with
 | nil=>exact fun zz zz h=>(GO.mpr fun x hx=>nomatch (h x).mpr hx).symm
 | cons x a ih=>
  intro c ha hc h
  cases c with
  | nil=>exact nomatch (h x).mp (.head _)
  | cons y c=>
  rw [Fh] at ha hc
  have' e:x=y:=by
   rcases EV.mp ((h x).mp (.head _)) with q | q
   ·exact q
   ·rcases EV.mp ((h y).mpr (.head _)) with r | r
    ·exact r.symm
    ·exact absurd (ha.1 y r) (Hu (hc.1 x q))
  subst e;refine congrArg _ (ih ha.2 hc.2 fun z=>⟨fun q=>?_,fun q=>?_⟩)
  ·exact (EV.mp ((h z).mp (.tail _ q))).resolve_left fun r=>E5 _ (r▸ha.1 z q)
  ·exact (EV.mp ((h z).mpr (.tail _ q))).resolve_left fun r=>E5 _ (r▸hc.1 z q)
theorem kG {R:Nat->Nat->Prop}:∀ {l:List Nat},(∀ A p B,l=A++p :: B->∀ q∈B,R p q)->l.Pairwise R:=by
 intro l
 induction l with
 | nil=>exact fun zz=>.nil
 | cons x l ih=>exact fun h=>.cons (h [] x l rfl) (ih fun A p B e=>h (x :: A) p B (by rw [e];rfl))
theorem m9 {b:Nat->Nat->Bool} {p:Nat×Nat} (h:p∈dv b):b p.1 p.2=true:=by
 unfold dv at h
 obtain ⟨i,_,h⟩:=HZ.mp h
 obtain ⟨j,hj,rfl⟩:=EO.mp h
 exact (FM.mp hj).2
theorem vy {b:Nat->Nat->Bool} {u v:Nat} (h1:u<=v) (h2:v<4) (h:b u v=true):(u,v)∈dv b:=by
 unfold dv
 refine HZ.mpr ⟨u,Ef.mpr (by omega),EO.mpr ⟨v,FM.mpr ⟨EO.mpr ⟨v - u,Ef.mpr (by omega),by omega⟩,h⟩,rfl⟩⟩
structure Lin (row:List Nat) (b:Nat->Nat->Bool) (l:List Nat):Prop where
 nod:l.Nodup
 all:∀ p,p∈l↔p<5
 pre:∀ A p B,l=A++p :: B->∀ q∈bA row b p,q∈A
theorem dh {row:List Nat} {b:Nat->Nat->Bool} {p q:Nat}:q∈bA row b p↔q<p/\b (row.getD q 0) (row.getD p 0)=true:=by
 unfold bA;rw [FM,Ef]
theorem oX {b:Nat->Nat->Bool} (B:Bd b) {u v x y:Nat} (h:b u v=true) (hx:(u==x || v==x)=true) (hy:(u==y || v==y)=true):b x y=true:=by
 simp only [Gy,beq_iff_eq] at hx hy
 rcases hx with rfl | rfl<;>rcases hy with rfl | rfl
 ·exact B.refl _
 ·exact h
 ·rw [B.symm];exact h
 ·exact B.refl _
theorem mw {row:List Nat} (hr:row.length=5):(EQ 5).map (fun p=>row.getD p 0)=row:=by
 refine KJ (by simp [hr]) fun i h1 h2=>?_
 simp [Et,h2]
theorem qA {row:List Nat} {b:Nat->Nat->Bool} {l:List Nat} (B:Bd b) (hr:row.length=5) (h:Lin row b l):au (l.map fun p=>row.getD p 0) b=au row b:=by
 conv=>rhs;rw [<- mw hr]
 unfold au
 refine FR fun p hp=>?_
 rw [II,II]
 refine congrArg _ (iX ?_ (KR.filter _) fun x=>?_)
 ·rw [Ki]
  refine kG fun A x C e y hy hx' hy'=>?_
  have hn:=h.nod
  rw [e,GC] at hn
  have' hxC:=(GI.mp hn.2.1).1;refine Nat.lt_of_not_le fun hle=>?_
  have' hlt:y<x:=JV hle fun q=>hxC (q▸hy)
  have:=h.pre A x C e y (dh.mpr ⟨hlt,oX B (m9 hp) hy' hx'⟩);exact hn.2.2 y this y (.tail _ hy) rfl
 ·rw [FM,FM,h.all,Ef]
section
variable {row:List Nat} {b:Nat->Nat->Bool}
theorem eA {t p:Nat}:p∈(bJ row b t).2↔p<5/\p∉an row b t/\∀ q∈bA row b p,q∈an row b t:=by
 rw [(iQ row b t).rd_]
 simp [no]
theorem xy:∀ t A p B,an row b t=A++p :: B->∀ q∈bA row b p,q∈A:=by
 intro t
 induction t with
 | zero=>intro A p B e q hq;cases A<;>cases e
 | succ t ih0=>
  intro A p B e q hq
  rw [an] at e
  rcases Je.mp e with ⟨M,e1,e2⟩ | ⟨M,e1,e2⟩
  ·have hp:p∈(bJ row b t).2:=by rw [e2];simp
   rw [e1]
   exact EG.mpr (.inl ((eA.mp hp).2.2 q hq))
  ·cases M with
   | nil=>
    have hp:p∈(bJ row b t).2:=by rw [EZ] at e2;rw [<- e2];simp
    rw [FH] at e1
    exact e1▸(eA.mp hp).2.2 q hq
   | cons m M=>
    rw [Eo] at e2
    obtain ⟨rfl,rfl⟩:=HX.inj e2;exact ih0 A p M e1 q hq
theorem yD:Lin row b (an row b 5):=⟨(hH row b 5).1,fun p=>⟨(hH row b 5).2 p,o8 row b p⟩,xy 5⟩
theorem kg (B:Bd b) {t p q:Nat} (hp:p∈(bJ row b t).2) (hq:q∈(bJ row b t).2) (ne:p≠q):b (row.getD p 0) (row.getD q 0)=false:=by
 refine Ga.mpr fun h=>?_
 rcases Nat.lt_or_gt_of_ne ne with l | l
 ·exact (eA.mp hp).2.1 ((eA.mp hq).2.2 p (dh.mpr ⟨l,h⟩))
 ·exact (eA.mp hq).2.1 ((eA.mp hp).2.2 q (dh.mpr ⟨l,by rw [B.symm];exact h⟩))
theorem z9 {t p:Nat} (hp:p∈(bJ row b (t+1)).2):∃ q∈(bJ row b t).2,b (row.getD q 0) (row.getD p 0)=true:=by
 obtain ⟨h1,h2,h3⟩:=eA.mp hp
 have:p∉(bJ row b t).2:=fun q=>h2 (by rw [an];exact EG.mpr (.inr q))
 have hf:p∉an row b t:=fun q=>h2 (by rw [an];exact EG.mpr (.inl q))
 refine Classical.byContradiction fun hno=>this (eA.mpr ⟨h1,hf,fun q hq=>?_⟩)
 have:=h3 q hq
 rw [an] at this
 rcases EG.mp this with r | r
 ·exact r
 ·exact absurd ⟨q,r,(dh.mp hq).2⟩ hno
theorem sG:∀ t,∃ k,k<=t/\(∀ i,i<k->(bJ row b i).2≠[])/\(k<t->(bJ row b k).2=[])/\ak row b t=(EQ k).map fun i=>(bJ row b i).2:=by
 intro t
 induction t with
 | zero=>exact ⟨0,EK _,fun zz h=>absurd h (Hj _),fun h=>absurd h (Hj _),rfl⟩
 | succ t ih0=>
  obtain ⟨k,h1,h2,h3,h4⟩:=ih0
  rw [ak,h4]
  by_cases q:(bJ row b t).2=[]
  ·rw [if_pos q,FH]
   refine ⟨k,by omega,h2,fun zz=>?_,rfl⟩
   rcases Hf h1 with l | l
   ·exact h3 l
   ·rw [l];exact q
  ·have' hk:k=t:=by
    rcases Hf h1 with l | l
    ·have:=ml (h3 l) (t - k)
     rw [show k+(t - k)=t by omega] at this
     exact absurd this q
    ·exact l
   subst hk
   rw [if_neg q]
   refine ⟨k+1,EK _,fun i hi=>?_,fun h=>absurd h (E5 _),?_⟩
   ·rcases Hf (G0 hi) with l | l
    ·exact h2 i l
    ·rw [l];exact q
   ·rw [HI,Ek];rfl
theorem eV (row:List Nat) (b:Nat->Nat->Bool):∃ k,k<=5/\(∀ i,i<k->(bJ row b i).2≠[])/\(bJ row b k).2=[]/\ag row b=(EQ k).map fun i=>(bJ row b i).2.map fun p=>row.getD p 0:=by
 obtain ⟨k,h1,h2,h3,h4⟩:=sG (row:=row) (b:=b) 5
 refine ⟨k,h1,h2,?_,by unfold ag;rw [h4,ET];rfl⟩
 rcases Hf h1 with l | l
 ·exact h3 l
 ·rw [l];exact rt row b
theorem g9 (row:List Nat) (b:Nat->Nat->Bool):(ag row b).flatten=(an row b 5).map fun p=>row.getD p 0:=by
 unfold ag;rw [<- List.map_flatten,pi]
theorem ku (B:Bd b):gy b (ag row b)=true:=by
 obtain ⟨k,_,h2,h3,e⟩:=eV row b
 rw [e]
 unfold gy
 have hg:∀ p,p<k->((EQ k).map fun i=>(bJ row b i).2.map fun p=>row.getD p 0).getD p []=(bJ row b p).2.map fun p=>row.getD p 0:=fun p hp=>by
  simp [Et,hp]
 rw [GW]
 intro p hp
 rw [Ef,EF,FV] at hp
 rw [hg p hp,GW]
 intro a ha
 rw [Ef,EF] at ha
 unfold qQ
 rw [hg p hp,Ea]
 have' ea:((bJ row b p).2.map fun p=>row.getD p 0).getD a 0=row.getD ((bJ row b p).2[a]) 0:=by simp [Et,ha]
 have hm:(bJ row b p).2[a]∈(bJ row b p).2:=Gi ha
 rw [ea]
 refine ⟨?_,?_⟩
 ·rw [GE,Ga]
  intro hany;obtain ⟨o,ho,hb⟩:=HD.mp hany
  rw [<- Jv] at ho
  obtain ⟨q,hq,rfl⟩:=EO.mp ho;have hn:=(iQ row b p).rdn
  rw [<- Hm (a+1) (bJ row b p).2,GC] at hn
  have hne:(bJ row b p).2[a]≠q:=hn.2.2 _ (by rw [Ie ha];exact EG.mpr (.inr (.head _))) q hq
  rw [kg B hm (Hs hq) hne] at hb
  cases hb
 ·rw [Gy]
  cases p with
  | zero=>exact .inl rfl
  | succ p=>
   refine .inr ?_
   rw [Nat.add_sub_cancel,hg p (by omega)]
   obtain ⟨q,hq,hb⟩:=z9 hm;exact HD.mpr ⟨_,EO.mpr ⟨q,hq,rfl⟩,by rw [B.symm];exact hb⟩
theorem oU {t:Nat} (ht:t<5):∃ x w,obW row (bK row b t)=x :: w/\(bK row b (t+1)).told=(bK row b t).told++[x.2]/\(bK row b (t+1)).w=w/\(∀ q∈bA row b x.2,q∈(bK row b t).told)/\x.1=row.getD x.2 0 /\
  ∀ p,p<5->p∉(bK row b t).told->(∀ q∈bA row b p,q∈(bK row b t).told)->x.1<=row.getD p 0:=by
 obtain ⟨h1,h2⟩:=gi row b t (El ht)
 have' hne:=h1.obW_ne (by omega)
 match e:obW row (bK row b t),hne with
 | x :: w,_=>
  obtain ⟨a,c,So,d1,d2,d3⟩:=h1.turn e;have et:bK row b (t+1)=gj row (bK row b t):=rfl;refine ⟨x,w,rfl,by rw [et,a],by rw [et,a],fun q hq=>?_,d2,fun p hp hn hpre=>?_⟩
  ·simpa using (So.cl x.2 (.inr (by simp))).2 q hq
  ·have:¬ (((x :: w).map (·.2)).contains p=false):=fun hf=>nomatch (So.rd_ p).mpr ⟨hp,by simpa using hn,hf,fun q hq=>by simpa using hpre q hq⟩
   rw [Bool.not_eq_false,FN] at this
   obtain ⟨y,hy,rfl⟩:=EO.mp this
   rcases EV.mp hy with rfl | hy
   ·rw [d2];exact EK _
   ·have:=c.wl y (by rw [a];exact hy)
    rw [<- this];exact d3 y hy
theorem Au:∀ t,t<=5->∀ A p B,(bK row b t).told=A++p :: B->∀ q∈bA row b p,q∈A:=by
 intro t
 induction t with
 | zero=>intro _ A p B e q hq;cases A<;>cases e
 | succ t ih0=>
  intro ht A p B e q hq;obtain ⟨x,w,_,e1,_,h,_⟩:=oU (row:=row) (b:=b) (t:=t) ht
  rw [e1] at e
  rcases Je.mp e with ⟨M,e2,e3⟩ | ⟨M,e2,e3⟩
  ·have' hp:p=x.2:=by
    have:p∈[x.2]:=by rw [e3];simp
    simpa using this
   rw [e2]
   exact EG.mpr (.inl (h q (hp▸hq)))
  ·cases M with
   | nil=>
    rw [EZ] at e3
    have' hp:p=x.2:=(HX.inj e3).1
    rw [FH] at e2
    rw [<- e2]
    exact h q (hp▸hq)
   | cons m M=>
    rw [Eo] at e3
    obtain ⟨rfl,rfl⟩:=HX.inj e3;exact ih0 (G6 ht) A p M e2 q hq
theorem pJ:Lin row b (bK row b 5).told:=by
 obtain ⟨h1,_⟩:=gi row b 5 (EK _)
 exact ⟨h1.tn,fun p=>⟨h1.t5 p,(yH row b).2.2 p⟩,Au 5 (EK _)⟩
theorem uW:∀ (n t:Nat),t+n<=5->∃ r,(bK row b (t+n)).told=(bK row b t).told++r:=by
 intro n
 induction n with
 | zero=>intro t _;exact ⟨[],by simp⟩
 | succ n ih0=>
  intro t h;obtain ⟨r,e⟩:=ih0 t (by omega)
  obtain ⟨x,w,_,e1,_⟩:=oU (row:=row) (b:=b) (t:=t+n) (by omega)
  exact ⟨r++[x.2],by rw [<- FC,e1,e,FK]⟩
theorem rA (B:Bd b):iB b (dz row b)=true:=by
 have' hlen:=(gi row b 5 (EK _)).2
 have' hn:=(gi row b 5 (EK _)).1.tn
 have' h5:=(gi row b 5 (EK _)).1.t5
 have' hpre:=pJ (row:=row) (b:=b)
 have htk:∀ t,t<=5->(bK row b t).told=(bK row b 5).told.take t:=fun t ht=>by
  obtain ⟨r,e⟩:=uW (row:=row) (b:=b) (5 - t) t (by omega)
  rw [show t+(5 - t)=5 by omega] at e
  rw [e,H8 (by rw [(gi row b t ht).2];exact EK _),Fw (by rw [(gi row b t ht).2];exact EK _)]
 unfold iB dz
 rw [EF,hlen,GW]
 intro e he
 rw [Ef] at he
 rw [GW]
 intro g hg
 rw [Ef] at hg
 generalize hl:(bK row b 5).told=l at *
 have eg:∀ i (h:i<l.length),(l.map fun p=>row.getD p 0).getD i 0=row.getD l[i] 0:=fun i h=>by simp [Et,h]
 unfold ip
 rw [eg e (by omega),eg g (by omega),GE,Ga]
 intro hc
 rw [Ea,decide_eq_true_eq,GE,Ga] at hc
 obtain ⟨hlt,hno⟩:=hc
 obtain ⟨x,w,_,e1,_,_,e4,hmin⟩:=oU (row:=row) (b:=b) (t:=g) (by omega)
 rw [htk (g+1) (by omega),htk g (by omega),Ie (by omega)] at e1
 have ex:l[g]=x.2:=(HX.inj (List.append_cancel_left e1)).1
 have key:=hmin l[e] (h5 _ (Gi _)) ?_ fun q hq=>?_
 ·rw [e4,<- ex] at key;omega
 ·rw [htk g (by omega)]
  intro hm;have:=hn
  rw [<- Hm g l,GC] at this
  refine this.2.2 _ hm l[e] ?_ rfl
  rw [List.mem_drop_iff_getElem]
  exact ⟨e - g,by omega,by congr 1;omega⟩
 ·rw [htk g (by omega)]
  have hq':=hpre.pre (l.take e) l[e] (l.drop (e+1)) (by rw [List.getElem_cons_drop,Hm]) q hq
  refine Classical.byContradiction fun hng=>hno (HD.mpr ⟨row.getD q 0,?_,by rw [B.symm];exact (dh.mp hq).2⟩)
  rw [<- Iu,<- Jv]
  refine EO.mpr ⟨q,?_,rfl⟩
  rw [<- Hm g (l.take e)] at hq'
  refine (EG.mp hq').resolve_left fun r=>hng ?_
  rw [List.take_take,Hg (by omega)] at r
  exact r
end
noncomputable def kv (row:List Nat) (b:Nat->Nat->Bool) (t:Nat):List Nat:=(EQ 5).filter fun p=>!(an row b t).contains p
noncomputable def e7 (row:List Nat) (b:Nat->Nat->Bool) (t u v:Nat):List Nat:=(kv row b t).filter fun p=>u==row.getD p 0 || v==row.getD p 0
noncomputable def gS (row:List Nat) (b:Nat->Nat->Bool) (t u v:Nat):List Nat:=(e7 row b t u v).map fun p=>row.getD p 0
noncomputable def iz (b:Nat->Nat->Bool) (f:Nat->Nat->List Nat) (u:Nat):Bool:=(EQ 4).all fun v=>!b u v || (f u v).head? == some u
noncomputable def wB (b:Nat->Nat->Bool) (f:Nat->Nat->List Nat) (u v:Nat):List Nat:=match f u v with
 | []=>[]
 | w :: tl=>if iz b f w then tl else w :: tl
noncomputable def fk (row:List Nat) (b:Nat->Nat->Bool) (t:Nat):List Nat:=(bJ row b t).2.map fun p=>row.getD p 0
section
variable {row row':List Nat} {b:Nat->Nat->Bool}
theorem y4 {t p:Nat}:p∈kv row b t↔p<5/\p∉an row b t:=by unfold kv;rw [FM,Ef];simp
theorem fm {t u v:Nat}:(e7 row b t u v).Pairwise (· < ·):=(KR.filter _).filter _
theorem eF {t u v p:Nat}:p∈e7 row b t u v↔(p<5/\p∉an row b t)/\(u==row.getD p 0 || v==row.getD p 0)=true:=by unfold e7;rw [FM,y4]
theorem kR (B:Bd b) {t u v h p:Nat} {T:List Nat} (hb:b u v=true) (e:e7 row b t u v=h :: T) (hp:p∈(bJ row b t).2) (hm:p∈e7 row b t u v):p=h:=by
 have hs:=fm (row:=row) (b:=b) (t:=t) (u:=u) (v:=v)
 have hh:h∈e7 row b t u v:=by rw [e];exact .head _
 rw [e] at hm hs
 refine (EV.mp hm).resolve_right fun hT=>?_
 have' hlt:=(Fh.mp hs).1 p hT
 have h1:=eF.mp hh
 have' h2:=eF.mp (e▸List.mem_cons_of_mem h hT:p∈e7 row b t u v)
 exact h1.1.2 ((eA.mp hp).2.2 h (dh.mpr ⟨hlt,oX B hb h1.2 h2.2⟩))
theorem fL (B:Bd b) (h4:∀ p,row.getD p 0<4) {t u:Nat} (hu:u<4):iz b (gS row b t) u=true↔u∈fk row b t:=by
 unfold iz fk
 rw [GW,EO]
 constructor
 ·intro h
  have hu':=h u (Ef.mpr hu)
  rw [B.refl,LF,Ip,beq_iff_eq] at hu'
  unfold gS at hu'
  cases e:e7 row b t u u with
  | nil=>rw [e] at hu';cases hu'
  | cons p T=>
   rw [e] at hu'
   have hpu:row.getD p 0=u:=GF.inj hu';have hp:=eF.mp (e▸Ja:p∈e7 row b t u u);refine ⟨p,eA.mpr ⟨hp.1.1,hp.1.2,fun q hq=>?_⟩,hpu⟩
   obtain ⟨ql,qb⟩:=dh.mp hq;refine Classical.byContradiction fun hqf=>?_
   have hv:=h (row.getD q 0) (Ef.mpr (h4 q));have hbv:b u (row.getD q 0)=true:=by rw [B.symm,<- hpu];exact qb
   rw [hbv,LF,Ip,beq_iff_eq] at hv
   unfold gS at hv
   have hqm:q∈e7 row b t u (row.getD q 0):=eF.mpr ⟨⟨by omega,hqf⟩,by simp⟩
   cases e2:e7 row b t u (row.getD q 0) with
   | nil=>rw [e2] at hqm;cases hqm
   | cons k T2=>
    rw [e2] at hv
    have hku:row.getD k 0=u:=GF.inj hv;have hk:=eF.mp (e2▸Ja:k∈e7 row b t u (row.getD q 0));have hkm:k∈e7 row b t u u:=eF.mpr ⟨hk.1,by rw [hku];simp⟩
    have s1:=fm (row:=row) (b:=b) (t:=t) (u:=u) (v:=u);have s2:=fm (row:=row) (b:=b) (t:=t) (u:=u) (v:=row.getD q 0)
    rw [e] at hkm s1
    rw [e2] at hqm s2
    have a1:p<=k:=(EV.mp hkm).elim (fun r=>Ec r.symm) fun r=>El ((Fh.mp s1).1 k r)
    have a2:k<=q:=(EV.mp hqm).elim (fun r=>Ec r.symm) fun r=>El ((Fh.mp s2).1 q r)
    omega
 ·rintro ⟨p,hp,rfl⟩ v hv
  cases hb:b (row.getD p 0) v with
  | false=>rfl
  | true=>
   rw [LF,Ip,beq_iff_eq]
   have h1:=eA.mp hp;have hm:p∈e7 row b t (row.getD p 0) v:=eF.mpr ⟨⟨h1.1,h1.2.1⟩,by simp⟩
   unfold gS
   cases e:e7 row b t (row.getD p 0) v with
   | nil=>rw [e] at hm;cases hm
   | cons k T=>rw [<- kR B hb e hp hm];rfl
theorem vj {t:Nat}:kv row b (t+1)=(kv row b t).filter fun p=>!(bJ row b t).2.contains p:=by
 unfold kv
 rw [Jb]
 refine GS fun p zz=>?_
 rw [FY,an]
 simp
 exact And.comm
theorem sX (B:Bd b) (h4:∀ p,row.getD p 0<4) {t u v:Nat} (hb:b u v=true):gS row b (t+1) u v=wB b (gS row b t) u v:=by
 have' e1:e7 row b (t+1) u v=(e7 row b t u v).filter fun p=>!(bJ row b t).2.contains p:=by
  unfold e7
  rw [vj,Jb,Jb]
  exact GS fun p zz=>Bool.and_comm ..
 unfold wB
 unfold gS
 rw [e1]
 cases e:e7 row b t u v with
 | nil=>rfl
 | cons h T=>
  have' hT:T.filter (fun p=>!(bJ row b t).2.contains p)=T:=GP.mpr fun p hp=>by
   rw [GE,Ga]
   intro hc;have hm:p∈e7 row b t u v:=by rw [e];exact .tail _ hp
   have:=kR B hb e (FN.mp hc) hm;have hs:=fm (row:=row) (b:=b) (t:=t) (u:=u) (v:=v)
   rw [e] at hs
   exact E5 _ (this▸(Fh.mp hs).1 p hp)
  have' hh:=eF.mp (e▸Ja:h∈e7 row b t u v);have' hiff:(bJ row b t).2.contains h=iz b (gS row b t) (row.getD h 0):=by
   rw [FY,fL B h4 (h4 h),FN]
   unfold fk
   rw [EO]
   refine ⟨fun q=>⟨h,q,rfl⟩,fun qq1=>?_⟩
   obtain ⟨p,hp,hpe⟩:=qq1;have h1:=eA.mp hp;have:=kR B hb e hp (eF.mpr ⟨⟨h1.1,h1.2.1⟩,by rw [hpe];exact hh.2⟩)
   exact this▸hp
  rw [Ex,hT,hiff]
  show _=if iz b (gS row b t) (row.getD h 0)=true then _ else _
  cases iz b (gS row b t) (row.getD h 0)<;>rfl
theorem gq {f g:Nat->Nat->List Nat} {u:Nat} (hu:u<4) (h:∀ u v,u<4->v<4->b u v=true->f u v=g u v):iz b f u=iz b g u:=by
 unfold iz
 rw [FY,GW,GW]
 refine forall_congr' fun v=>forall_congr' fun hv=>?_
 cases hb:b u v with
 | false=>exact Iff.rfl
 | true=>rw [h u v hu (Ef.mp hv) hb]
theorem o9 (hr:row.length=5) {u v:Nat}:gS row b 0 u v=row.filter fun x=>u==x || v==x:=by
 conv=>rhs;rw [<- mw hr]
 unfold gS e7
 rw [II]
 have:kv row b 0=EQ 5:=GP.mpr fun zz zz=>rfl
 rw [this];rfl
theorem yV (B:Bd b) (hr:row.length=5) (hr':row'.length=5) (h4:∀ p,row.getD p 0<4) (h4':∀ p,row'.getD p 0<4) (h:au row b=au row' b):∀ t u v,u<4->v<4->b u v=true->gS row b t u v=gS row' b t u v:=by
 intro t
 induction t with
 | zero=>
  intro u v hu hv hb;have key:∀ u v,u<=v->v<4->b u v=true->(row.filter fun x=>u==x || v==x)=row'.filter fun x=>u==x || v==x:=fun u v a c d=>
   List.map_inj_left.mp h (u,v) (vy a c d)
  rw [o9 hr,o9 hr']
  rcases IZ u v with l | l
  ·exact key u v l hv hb
  ·have:=key v u l hu (by rw [B.symm];exact hb)
   simpa only [Bool.or_comm] using this
 | succ t ih=>
  intro u v hu hv hb
  rw [sX B h4 hb,sX B h4' hb]
  unfold wB
  rw [ih u v hu hv hb]
  cases e:gS row' b t u v with
  | nil=>rfl
  | cons w T=>
   have' hw:w<4:=by
    have:w∈gS row' b t u v:=by rw [e];exact .head _
    unfold gS at this
    obtain ⟨p,_,rfl⟩:=EO.mp this;exact h4' p
   show (if _ then _ else _)=if _ then _ else _
   rw [gq hw ih]
theorem sN (h4:∀ p,row.getD p 0<4) {t u:Nat} (h:u∈fk row b t):u<4:=by
 obtain ⟨p,_,rfl⟩:=EO.mp h;exact h4 p
theorem lW (B:Bd b) (t:Nat):(fk row b t).Nodup:=by
 unfold fk
 rw [List.Nodup,Ho]
 have' hn:=(iQ row b t).rdn
 refine HQ.imp_of_mem ?_ hn
 intro p q hp hq ne e
 have:=kg B hp hq ne
 rw [e,B.refl] at this;cases this
end
noncomputable def srt (g:List Nat):List Nat:=g.mergeSort fun a b=>decide (a<=b)
theorem eJ {g:List Nat} {x:Nat}:x∈srt g↔x∈g:=(Gc ..).mem_iff
theorem hZ {g:List Nat}:(srt g).length=g.length:=(Gc ..).length_eq
theorem kf (g:List Nat):(srt g).Pairwise (·<=·):=
 (IV (le:=fun (a b:Nat)=>decide (a<=b)) (fun a b c h1 h2=>by simp at *;omega) (fun a b=>by simp;omega) g).imp fun h=>by simpa using h
theorem rK {g:List Nat} (h:g.Nodup):(srt g).Pairwise (· < ·):=by
 have h2:(srt g).Nodup:=(Gc ..).nodup_iff.mpr h
 exact (kf g).imp₂ (fun a c h1 h2=>JV h1 h2) h2
theorem yI {g g':List Nat} (h:g.Nodup) (h':g'.Nodup) (e:∀ x,x∈g↔x∈g'):srt g=srt g':=
 iX (rK h) (rK h') fun x=>by rw [eJ,eJ];exact e x
section
variable {row row':List Nat} {b:Nat->Nat->Bool}
theorem BI (B:Bd b) (hr:row.length=5) (hr':row'.length=5) (h4:∀ p,row.getD p 0<4) (h4':∀ p,row'.getD p 0<4) (h:au row b=au row' b):(ag row b).map srt=(ag row' b).map srt:=by
 have key:∀ t,srt (fk row b t)=srt (fk row' b t):=fun t=>by
  refine yI (lW B t) (lW B t) fun x=>?_
  have ih:=yV B hr hr' h4 h4' h t;refine ⟨fun q=>?_,fun q=>?_⟩
  ·have hx:=sN h4 q
   rw [<- fL B h4' hx,<- gq hx ih,fL B h4 hx];exact q
  ·have hx:=sN h4' q
   rw [<- fL B h4 hx,gq hx ih,fL B h4' hx];exact q
 have hnil:∀ t,(bJ row b t).2=[]↔(bJ row' b t).2=[]:=fun t=>by
  have e:=congrArg H7 (key t)
  rw [hZ,hZ] at e
  unfold fk at e
  rw [EF,EF] at e
  rw [<- Gw,<- Gw,e]
 obtain ⟨k,_,a1,a2,e1⟩:=eV row b
 obtain ⟨k',_,c1,c2,e2⟩:=eV row' b
 have' hk:k=k':=by
  rcases Nat.lt_trichotomy k k' with l | l | l
  ·exact absurd ((hnil k).mp a2) (c1 k l)
  ·exact l
  ·exact absurd ((hnil k').mpr c2) (a1 k' l)
 rw [e1,e2,hk,ET,ET]
 exact FR fun t zz=>key t
theorem qj {a c:List Nat} (h:a.Perm c) (h1:a.length<=1):a=c:=by
 match a,h1 with
 | [],_=>exact (Ju.mp h).symm
 | [x],_=>exact List.singleton_perm.mp h
theorem nb (B:Bd b) {g:List Nat} {u v:Nat} (hb:b u v=true) (hg:g.Pairwise fun x y=>b x y=false):(g.filter fun x=>u==x || v==x)=(srt g).filter fun x=>u==x || v==x:=by
 refine qj ((Gc ..).symm.filter _) ?_
 have' h2:(g.filter fun x=>u==x || v==x).Pairwise fun zz zz=>False:=by
  rw [Ki]
  exact hg.imp fun h hx hy=>by rw [oX B hb hx hy] at h;cases h
 match g.filter (fun x=>u==x || v==x),h2 with
 | [],_=>exact En _
 | [_],_=>exact EK _
 | x :: y :: l,h=>exact ((Fh.mp h).1 y (.head _)).elim
theorem jj (B:Bd b):∀ g∈ag row b,g.Pairwise fun x y=>b x y=false:=by
 obtain ⟨k,_,_,_,e⟩:=eV row b
 rw [e]
 intro g hg
 obtain ⟨t,_,rfl⟩:=EO.mp hg
 rw [Ho]
 exact HQ.imp_of_mem (fun hp hq ne=>kg B hp hq ne) (iQ row b t).rdn
theorem qG (B:Bd b):∀ g∈ag row b,g.Nodup:=fun g hg=>(jj B g hg).imp fun h e=>by rw [e,B.refl] at h;cases h
theorem mH (B:Bd b) (hr:row.length=5):au (ag row b).flatten b=au row b:=by
 rw [g9];exact qA B hr yD
theorem vL (B:Bd b) (hr:row.length=5):au (dz row b) b=au row b:=qA B hr pJ
theorem o7 (B:Bd b) (hr:row.length=5):au ((ag row b).map srt).flatten b=au row b:=by
 rw [<- mH B hr]
 unfold au
 refine FR fun p hp=>?_
 rw [Ky,Ky,ET]
 refine congrArg _ (FR fun g hg=>?_)
 exact (nb B (m9 hp) (jj B g hg)).symm
theorem vA (B:Bd b) (hr:row.length=5) (hr':row'.length=5) (h4:∀ p,row.getD p 0<4) (h4':∀ p,row'.getD p 0<4):(ag row b).map srt=(ag row' b).map srt↔au row b=au row' b:=
 ⟨fun h=>by rw [<- o7 B hr,<- o7 B hr',h],BI B hr hr' h4 h4'⟩
end
set_option tactic.hygienic true in
theorem iE:∀ (cs:List Nat) (st:LS) (tok:Str) (q:Bool) (n:Nat) (w:Str) (quo:Bool) (R:List Nat),st≠.E->eG cs st tok q=some (n,.E,w,quo)->(!quo && w.length==0)=false->n=cs.length/\eG (cs++32 :: R) st tok q=some (n+1,.S,w,quo):=by
 intro cs
 induction cs with
 | nil=>
  intro st tok q n w quo R hst h hq
  cases st<;>simp only [eG] at h<;>cases h
  ·refine ⟨rfl,?_⟩
   rw [EZ,eG,if_pos ⟨rfl,rfl⟩,if_pos]
   revert hq;cases q<;>simp
  ·exact absurd rfl hst
 | cons c cs iE=>
  intro st tok q n w quo R hst h hq;unfold eG at h
  rw [Eo]
  unfold eG
  split at h
  ·split at h<;>cases h
  ·rename_i hc
   rw [if_neg hc]
   cases e:gw st c tok q with
   | none=>rw [e] at h;cases h
   | some r=>
    obtain ⟨st',tok',q'⟩:=r
    rw [e] at h
    obtain ⟨⟨m,r2⟩,h1,h2⟩:=FP.mp h
    cases h2
    obtain ⟨a1,a2⟩:=iE st' tok' q' m w quo R (pR e).2 h1 hq;refine ⟨by rw [a1];rfl,?_⟩
    dsimp only
    rw [a2];rfl
noncomputable def nS (q w:Str):Bool:=(eG q.cps.toList .S "" false).any (fun r=>decide (r.2.1=.E) && (decide (r.2.2.1=w) && !(!r.2.2.2 && w.length==0))) && Fo q && decide (q.length<=100)
theorem zu {q w:Str} (h:nS q w=true):∃ quo,eG q.cps.toList .S "" false=some (q.length,.E,w,quo)/\(!quo && w.length==0)=false/\∀ R,eG (q.cps.toList++32 :: R) .S "" false=some (q.length+1,.S,w,quo):=by
 unfold nS at h
 rw [Ea,Ea] at h
 obtain ⟨⟨n,st,w',quo⟩,e,h1⟩:=(Option.any_eq_true _ _).mp h.1.1
 rw [Ea,Ea,decide_eq_true_eq,decide_eq_true_eq,GE] at h1
 obtain ⟨rfl,rfl,hq⟩:=h1
 have hn:=(iE _ .S "" false n w' quo [] (by intro q;cases q) e hq).1
 have hn':n=q.length:=by rw [hn,FQ];rfl
 subst hn'
 exact ⟨quo,e,hq,fun R=>(iE _ .S "" false _ w' quo R (by intro q;cases q) e hq).2⟩
theorem mM (x y:Str) (l:List Str):(Ib " " (x :: y :: l)).cps.toList=x.cps.toList++32 :: (Ib " " (y :: l)).cps.toList:=by
 show (Ep.Str.glued " " (x :: y :: l)).cps.toList=_++32 :: (Ep.Str.glued " " (y :: l)).cps.toList
 rw [StrLaws.glued_eq_join,StrLaws.glued_eq_join]
 show ((x.cps++(" " : Str).cps)++(Str.join " " (y :: l)).cps).toList=_
 rw [IC,IC,FK]
 rfl
theorem qO (x:Str):Ib " " [x]=x:=by
 show Ep.Str.glued " " [x]=_
 rw [StrLaws.glued_eq_join];rfl
theorem mW:∀ (qs:List (Str×Str)) (k:Nat),qs≠[]->qs.length+1<=k->(∀ p∈qs,nS p.1 p.2=true)->toks k (Ib " " (qs.map (·.1))).cps.toList .S=some (qs.map (·.2)):=by
 intro qs
 induction qs with
 | nil=>exact fun zz h zz zz=>absurd rfl h
 | cons p qs ih=>
  intro k _ hk h
  cases qs with
  | nil=>
  obtain ⟨k,rfl⟩:∃ j,k=j+2:=⟨k - 2,by simp at hk;omega⟩
  obtain ⟨quo,h1,h2,_⟩:=zu (h p (.head _))
  rw [J7,qO,toks,h1]
  dsimp only;have hd:p.1.cps.toList.drop p.1.length=[]:=by rw [Ke,FQ];exact EK _
  rw [if_neg (by rw [h2];intro q;cases q),hd,toks]
  simp only [eG]
  rfl
  | cons p' qs=>
  obtain ⟨k,rfl⟩:∃ j,k=j+1:=⟨k - 1,by simp at hk;omega⟩
  obtain ⟨quo,h1,h2,h3⟩:=zu (h p (.head _));have ih:=ih k (by simp) (by simp at hk ⊢;omega) fun x hx=>h x (.tail _ hx)
  rw [E9,E9,mM,toks,h3]
  dsimp only
  rw [if_neg (by rw [h2];intro q;cases q)]
  have' hd:∀ R,(p.1.cps.toList++32 :: R).drop (p.1.length+1)=R:=fun R=>by
   rw [show p.1.length+1=p.1.cps.toList.length+1 by rw [FQ];rfl,List.drop_append]
   rw [Fn (by omega),E4];rfl
  rw [hd]
  rw [E9] at ih
  rw [ih];rfl
theorem mU:∀ (l:List Str),(∀ q∈l,q.length<=100)->(Ib " " l).length<=l.length * 101:=fun l h=>by
 show (Ep.Str.glued " " l).length<=_
 rw [StrLaws.glued_eq_join]
 refine EH (StrLaws.join_length_le " " l) ?_
 have:(l.map (·.length)).sum<=l.length * 100:=by
  induction l with
  | nil=>exact En _
  | cons x l ih=>
   have:=ih fun q hq=>h q (.tail _ hq)
   have:=h x (.head _)
   rw [E9,List.sum_cons,E0];omega
 have h1:(" " : Str).length=1:=by decide +kernel
 rw [h1];omega
theorem m2 {l:List Str} (h:∀ q∈l,q.length<=100) (hl:l.length<=10):JoinOk " " l=true:=by
 unfold JoinOk
 rw [StrLaws.joinTotal]
 have' h1:(" " : Str).length=1:=by decide +kernel
 have:(l.map (·.length)).sum<=l.length * 100:=by
  clear hl
  induction l with
  | nil=>exact En _
  | cons x l ih=>
   have:=ih fun q hq=>h q (.tail _ hq)
   have:=h x (.head _)
   rw [E9,List.sum_cons,E0];omega
 unfold Ep.Str.tooLong
 rw [GE,decide_eq_false_iff_not,ER,h1]
 omega
theorem re:∀ (l:List Str),(∀ q∈l,Fo q=true)->Fo (Ib " " l)=true:=by
 intro l
 induction l with
 | nil=>exact fun zz=>by decide +kernel
 | cons x l ih=>
  intro h
  cases l with
  | nil=>rw [qO];exact h x (.head _)
  | cons y l=>
  have' ih:=ih fun q hq=>h q (.tail _ hq)
  have' hx:=h x (.head _);unfold Fo at *
  rw [<- Array.all_toList] at *
  rw [mM,List.all_append,GJ,ih,hx]
  rfl
noncomputable def qOk (y:Str):Bool:=(found y.cps).isSome && decide (y.cps.size<1000) && decide ((HB y "'" "'\"'\"'").length<=100000)
theorem QOk.of {y:Str} (h:qOk y=true):QOk y:=by
 unfold qOk at h
 simp only [Ea,decide_eq_true_eq] at h
 exact ⟨ID.mp h.1.1,h.1.2,h.2⟩
noncomputable def yX (a b c d:Bool):List Nat:=(if a then [0] else [])++(if b then [1] else [])++(if c then [2] else [])++if d then [3] else []
noncomputable def rn (g:List Nat):Bool:=qOk (bI (g.map wS)) && nS (bU (bI (g.map wS))) (bI (g.map wS)) && decide ((bI (g.map wS)).length<=100)
theorem yQ:∀ i,i<4->(qOk (wS i) && nS (bU (wS i)) (wS i))=true:=by decide +kernel
theorem yN:∀ a b c d:Bool,(a || b || c || d)=true->rn (yX a b c d)=true:=by decide +kernel
noncomputable def bE (row:List Nat):List (List Nat):=row :: ([2,0,3,1].map fun p=>em row p)
theorem x7 (g:List Nat):xC (g.map fun n:Nat=>(n:Int))=(srt g).map fun n:Nat=>(n:Int):=
 (q7 ((Gc ..).map _) (Ho.mpr ((kf g).imp fun h=>by omega))).symm
noncomputable def al (row:List Nat) (b:Nat->Nat->Bool):List (List Str):=(ag row b).map fun g=>(srt g).map wS
noncomputable def cG (s:List (List Str)):PyData:=.list (s.map fun ws=>.list (ws.map .str))
noncomputable def da (row:List Nat) (b:Nat->Nat->Bool):List Str:=(bE row).map fun r=>bZ (al r b)
noncomputable def df (row:List Nat) (k:Nat):List Nat:=(bE row).getD k []
noncomputable def dU (row:List Nat) (b:Nat->Nat->Bool):List Nat:=(EQ 5).filter fun k=>!((bE row).take k).any fun r=>au r b==au (df row k) b
structure PL (row:List Nat) (b:Nat->Nat->Bool):Prop where
 rd:∀ r∈bE row,(ag r b).length<=5/\∀ g∈ag r b,g.length<=5/\∀ x∈g,x<4
 flat:(ag row b).flatten.length<=1000
 td:(dz row b).length<=5/\∀ x∈dz row b,x<4
 h1:gy b (ag row b)=true
 h2:au (ag row b).flatten b=au row b
 h3:au (dz row b) b=au row b
 h4:iB b (dz row b)=true
 tx:∀ r∈bE row,(∀ ws∈al r b,ws.length<=1000/\(∀ y∈ws,QOk y)/\JoinOk " " (ws.map bU)=true/\QOk (bI ws))/\JoinOk " " (((al r b).map bI).map bU)=true
 sh:∀ r∈bE row,Fo (bZ (al r b))=true/\(∀ ws∈al r b,∀ y∈ws,Fo y=true)
 h6:bM (da row b)=(dU row b).map fun k=>bZ (al (df row k) b)
 h7:cy ((bE row).map fun r=>cG (al r b))=(dU row b).map fun k=>cG (al (df row k) b)
 rdb:∃ (k:Nat) (g:Str->List Str),(bZ (al row b)).length<=100000/\toks k (bZ (al row b)).cps.toList .S=some ((al row b).map bI)/\(∀ ws∈al row b,(bI ws).length<=100000/\toks k (bI ws).cps.toList .S=some ws/\g (bI ws)=ws/\ws.length<=1000)
 h5:(bE row).map (fun r=>jH (ag row b) (ag r b))=(bE row).map fun r=>au r b==au row b
theorem jV (x y:List (List Str)):FF (cG x) (cG y)=(x==y):=fS (fun a c=>fS (fun zz zz=>kO) a c) x y
theorem lD {α:Type} [BEq α] [LawfulBEq α] {f:α->PyData} (h:∀ x y,FF (f x) (f y)=(x==y)) (xs:List α) {ds es:List PyData} (e:ds=xs.map f) (e':es=xs.map f):(!FF (.list ds) (.list es))=false:=by
 rw [e,e',fS h,beq_self_eq_true];rfl
theorem hX {row:List Nat} {k:Nat} (h:k<5):df row k∈bE row:=by
 unfold df
 rw [Et,Eb (show k<(bE row).length from h)]
 exact Gi _
theorem nT {row:List Nat} {f:List Nat->PyData} {k:Nat} (h:k<5):((bE row).map f)[((k:Int)).toNat]? = some (f (df row k)):=by
 show ((bE row).map f)[k]? = _
 unfold df
 rw [Et,Em,Eb (show k<(bE row).length from h)]
 rfl
theorem qR {x:Str} (h:Fo x=true):Lay (.tuple [.str x,.none]) 1:=⟨by simp [J8,Fv,h],EK 1⟩
theorem fM {s:List (List Str)} (h:∀ ws∈s,∀ y∈ws,Fo y=true):Lay (cG s) 2:=cS fun d hd=>by
 obtain ⟨ws,hw,rfl⟩:=EO.mp hd
 exact cS fun e he=>by obtain ⟨y,hy,rfl⟩:=EO.mp he;exact nQ (h ws hw y hy)
theorem k7 (ds:List PyData) (k:Nat):di ds none (some k)=ds.take k:=rfl
theorem zV {α:Type} {f:α->PyData} {n:Nat} (h:∀ x,Lay (f x) n) {xs:List α}:Fv (xs.map f)=true:=by
 induction xs with
 | nil=>rfl
 | cons x xs ih=>rw [E9,Fv,(h x).lay,ih];rfl
theorem sm {row:List Nat} (hr:row.length=5) (hr4:∀ x∈row,x<4):∀ r∈bE row,r.length=5/\(∀ x∈r,x<4)/\r.length<=1000:=by
 intro r h
 have key:∀ p,p+1<5->(em row p).length=5/\∀ x∈em row p,x<4:=by
  intro p hp;unfold em;refine ⟨by simp;omega,fun x hx=>?_⟩
  simp only [EG,EV,Fe,or_false] at hx
  rcases hx with (h | rfl | rfl) | h
  ·exact hr4 x (Kf h)
  ·exact gz hr4
  ·exact gz hr4
  ·exact hr4 x (Hs h)
 rcases EV.mp h with rfl | h
 ·exact ⟨hr,hr4,by omega⟩
 ·obtain ⟨p,hp,rfl⟩:=EO.mp h
  have hp5:p+1<5:=by
   simp only [EV,Fe,or_false] at hp
   rcases hp with rfl | rfl | rfl | rfl<;>omega
  exact ⟨(key p hp5).1,(key p hp5).2,by rw [(key p hp5).1];omega⟩
section
variable {C:Cx} (H:bH C) {fz:List Nat} {σ:aC} {jp:Nat}
include H
theorem sC {row:List Nat} {b:Nat->Nat->Bool} (hr:row.length=5) (hr4:∀ x∈row,x<4) (pl:PL row b) (hfz:∀ i∈fz,i<σ.length) (hjp:σ[jp]? = some (.code 866)) (hjz:jp∉fz) :
  aP C 12 fz (.ref 977) [.dat (be row),.dat (dB b)] [] σ (.dat (.bool true)) σ:=by
 refine aP.drop (t:=[.sdict (bM (da row b))]) ?_
 wtm_at "Dp"
 case hr=>exact .ret
 case h=>
  dsimp only;have hr5:∀ r∈bE row,r.length=5/\(∀ x∈r,x<4)/\r.length<=1000:=fun r h=>sm hr hr4 r h
  have hmem:row∈bE row:=.head _;have a4:=pl.rd row hmem;have ht0:((bE row).map fun r=>GY ((ag r b).map be))[(0:Int).toNat]? = some (.list ((ag row b).map be)):=rfl
  have hr0:((bE row).map fun r=>gK (au r b))[(0:Int).toNat]? = some (gK (au row b)):=rfl
  have hlt:((bE row).map fun r=>GY ((ag r b).map be)).length<=FI:=by rw [EF,ER];exact EW rfl
  have hlr:((bE row).map fun r=>gK (au r b)).length<=FI:=by rw [EF,ER];exact EW rfl
  refine' aA ?s1 (aA ?s2 (aA ?s3 (aA (aN (aY.of (dS ?t4) ?d4) aH) (aA (aN (aY.of ?t5 ?d5) aH) ?rest))))
  case s1=>
   refine' aB ?v ?t
   case v=>
    refine' aG.of (a':=.dat (.list ((bE row).map be))) (cx ?b1 ?b2 (OpG.of2 (kb ?b3))) ?ee
    case b1=>
     refine' fT ?k1 ?k2 ?k3
     case k1=>wtm_at "Ml"
     case k2=>wtm_at "Mdats"
     case k3=>wtm_at "Mside"
    case b2=>
     wtm_at "Dc"
     case hc=>
      refine' cN (xs:=[2,0,3,1]) (v:=fun p:Nat=>.dat (.int p)) (f:=fun p=>be (em row p)) rfl ?ha ?hee ?hsu
      case ha=>intro p hp;wtm_at "Ma"
      case hsu=>intro p hp;wtm_at "Msub"
      case hee=>
       intro p hp;have hp5:p+1<row.length:=by
        simp only [EV,Fe,or_false] at hp
        rcases hp with rfl | rfl | rfl | rfl<;>omega
       refine' ah ?f (kp_ H (by kernel_rfl)) (aZ ?l (by with_unfolding_all rfl)) (vJ H hp5 (by omega)) (by show 2<=11;decide) rfl (by intro _;with_unfolding_all rfl)
       case f=>wtm_at "Me"
       case l=>wtm_at "Ml"
     case hz=>rw [ER];exact EW rfl
    case b3=>rw [ER];exact EW rfl
    case ee=>rfl
   case t=>wtm_at "Ma"
  case s2=>
   wtm_at "Da"
   case hc=>
    rw [ET]
    refine' cN (f:=fun r=>.list ((ag r b).map be)) rfl ?ha ?hee ?hsu
    case ha=>intro r hr';dsimp only [Function.comp];wtm_at "Ma"
    case hsu=>intro r hr';wtm_at "Msub"
    case hee=>
     intro r hr';obtain ⟨a1,a2,a3⟩:=hr5 r hr';refine' ah ?f (kp_ H (by kernel_rfl)) (aZ ?l (by with_unfolding_all rfl)) (pq H a1 a2 hfz) (by show 8<=11;decide) rfl (by intro _;with_unfolding_all rfl)
     case f=>wtm_at "Me"
     case l=>wtm_at "Ml"
   case hz=>rw [EF,ER];exact EW rfl
  case s3=>
   wtm_at "Da"
   case hc=>
    rw [ET]
    refine' cN (f:=fun r=>gK (au r b)) rfl ?ha ?hee ?hsu
    case ha=>intro r hr';dsimp only [Function.comp];wtm_at "Ma"
    case hsu=>intro r hr';wtm_at "Msub"
    case hee=>
     intro r hr';obtain ⟨a1,a2,a3⟩:=hr5 r hr';refine' ah ?f (kp_ H (by kernel_rfl)) (aZ ?l (by with_unfolding_all rfl)) (rF H a3) (by show 2<=11;decide) rfl (by intro _;with_unfolding_all rfl)
     case f=>wtm_at "Me"
     case l=>wtm_at "Ml"
   case hz=>rw [EF,ER];exact EW rfl
  case t4=>
   refine' bV (ah ?f (kp_ H (by kernel_rfl)) (aZ ?l (by with_unfolding_all rfl)) (vD H (fun g hg=>(a4.2 g hg).2) (by omega) (fun g hg=>by have:=(a4.2 g hg).1;omega)) (by show 2<=11;decide) rfl (by intro _;with_unfolding_all rfl)) dW (by intro _;with_unfolding_all rfl)
   case f=>wtm_at "Me"
   case l=>wtm_at "Ml"
  case d4=>rw [pl.h1];rfl
  case t5=>
   refine' ai (ah ?f (kp_ H (by kernel_rfl)) (aZ (bF ?c (bF ?bb bR (by with_unfolding_all rfl)) (by with_unfolding_all rfl)) (by with_unfolding_all rfl)) (rF H (row:=(ag row b).flatten) pl.flat) (by show 2<=11;decide) rfl (by intro _;with_unfolding_all rfl)) ?r0 (OpG.of2 (ir ((dK _).shaped (by decide)) ((dK _).shaped (by decide))))
   case f=>wtm_at "Me"
   case c=>
    refine' aG.of (a:=.dat (.list ((ag row b).flatMap fun g=>g.map nD))) ?comp ?ee
    case ee=>unfold be;rw [List.map_flatten,List.flatMap_def]
    case comp=>
     wtm_at "Dc"
     case hc=>
      rw [ET]
      refine' tH (ys:=fun g:List Nat=>g) (w:=fun x:Nat=>AV.dat (nD x)) (ds:=fun g:List Nat=>g.map nD) rfl ?ha ?hi2 (by intro _ _;rfl) ?hcc ?hsu
      case ha=>intro g hg;dsimp only [Function.comp,be];wtm_at "Ma"
      case hsu=>intro g hg;wtm_at "Msub"
      case hi2=>
       intro g hg
       rw [<- dZ]
       refine' fg ?k1 (by with_unfolding_all rfl) (.name (by with_unfolding_all rfl))
       case k1=>wtm_at "Me"
      case hcc=>
       intro g hg;refine' cN rfl ?ha ?hee ?hsu
       case ha=>intro x hx;wtm_at "Ma"
       case hsu=>intro x hx;wtm_at "Msub"
       case hee=>intro x hx;wtm_at "Me"
     case hz=>
      have:=pl.flat
      rw [List.length_flatten] at this
      rw [List.length_flatMap,ER]
      simp only [EF]
      exact EH this (by decide)
   case bb=>wtm_at "Me"
   case r0=>wtm_at "Me"
  case d5=>rw [pl.h2,hY];simp
  case rest=>
   refine' aA ?s6 (aA (aN (fA (aY.of ?t7 ?d7) (aY.of (dS ?t8) ?d8)) aH) (aA (aN (aY.of ?t9 ?d9) aH) ?rest2))
   case s6=>
    refine' aB (ah ?f (kp_ H (by kernel_rfl)) (aZ ?l (by with_unfolding_all rfl)) (rT H hr hr4 hfz) (by show 8<=11;decide) rfl (by intro _;with_unfolding_all rfl)) ?t
    case f=>wtm_at "Me"
    case l=>wtm_at "Ml"
    case t=>wtm_at "Ma"
   case t7=>
    refine' ai (ah ?f (kp_ H (by kernel_rfl)) (aZ ?l (by with_unfolding_all rfl)) (rF H (row:=dz row b) (by have:=pl.td.1;omega)) (by show 2<=11;decide) rfl (by intro _;with_unfolding_all rfl)) ?r0 (OpG.of2 (ir ((dK _).shaped (by decide)) ((dK _).shaped (by decide))))
    case f=>wtm_at "Me"
    case l=>wtm_at "Ml"
    case r0=>wtm_at "Me"
   case d7=>rw [pl.h3,hY];simp
   case t8=>
    refine' bV (ah ?f (kp_ H (by kernel_rfl)) (aZ ?l (by with_unfolding_all rfl)) (zc H (row:=dz row b) pl.td.2 (by have:=pl.td.1;omega)) (by show 2<=11;decide) rfl (by intro _;with_unfolding_all rfl)) dW (by intro _;with_unfolding_all rfl)
    case f=>wtm_at "Me"
    case l=>wtm_at "Ml"
   case d8=>rw [pl.h4];rfl
   case t9=>
    refine' ai (dN (ds:=((bE row).map fun r=>jH (ag row b) (ag r b)).map .bool) ?ck ?hi ?hfr ?hcl ?hbl ?hc ?hz ?hf) (dN (ds:=((bE row).map fun r=>au r b==au row b).map .bool) ?ck2 ?hi2 ?hfr2 ?hcl2 ?hbl2 ?hc2 ?hz2 ?hf2) (OpG.of2 (ir ?y1 ?y2))
    case ck=>wtm_at "Mcompok"
    case hi=>wtm_at "Mi"
    case hf=>(intro _ _;rfl)
    case hfr=>wtm_at "Mfrees"
    case hcl=>wtm_at "Mclos"
    case hbl=>wtm_at "Mblank"
    case ck2=>wtm_at "Mcompok"
    case hi2=>wtm_at "Mi"
    case hf2=>(intro _ _;rfl)
    case hfr2=>wtm_at "Mfrees"
    case hcl2=>wtm_at "Mclos"
    case hbl2=>wtm_at "Mblank"
    case hz=>rw [EF,EF,ER];exact EW rfl
    case hz2=>rw [EF,EF,ER];exact EW rfl
    case y1=>exact (cS fun d hd=>by obtain ⟨x,_,rfl⟩:=EO.mp hd;exact pO x).shaped (by decide:1<=64)
    case y2=>exact (cS fun d hd=>by obtain ⟨x,_,rfl⟩:=EO.mp hd;exact pO x).shaped (by decide:1<=64)
    case hc=>
     dsimp only [EZ]
     rw [ET,ET]
     refine' cN (v:=fun r=>AV.dat (.list ((ag r b).map be))) (f:=fun r=>.bool (jH (ag row b) (ag r b))) rfl ?ha ?hee ?hsu
     case ha=>intro r hr';wtm_at "Ma"
     case hsu=>intro r hr';wtm_at "Msub"
     case hee=>
      intro r hr';have a5:=pl.rd r hr';refine' ah ?f (kp_ H (by kernel_rfl)) (aZ ?l (by with_unfolding_all rfl)) (yb H (fun g hg=>(a4.2 g hg).2) (fun g hg=>(a5.2 g hg).2) (by omega) (by omega) (fun g hg=>by have:=(a4.2 g hg).1;omega) (fun g hg=>by have:=(a5.2 g hg).1;omega) hfz) (by show 4<=11;decide) rfl (by intro _;with_unfolding_all rfl)
      case f=>wtm_at "Me"
      case l=>wtm_at "Ml"
    case hc2=>
     dsimp only [EZ]
     rw [ET,ET]
     refine' cN (v:=fun r=>AV.dat (gK (au r b))) (f:=fun r=>.bool (au r b==au row b)) rfl ?ha ?hee ?hsu
     case ha=>intro r hr';wtm_at "Ma"
     case hsu=>intro r hr';wtm_at "Msub"
     case hee=>
      intro r hr';refine' aG.of (nJ ?k1 ?k2 (OpG.of2 (w8 ((dK _).shaped (by decide)) ((dK _).shaped (by decide))))) ?ee
      case k1=>wtm_at "Me"
      case k2=>wtm_at "Me"
      case ee=>rw [hY]
   case d9=>rw [pl.h5];rw [vC];simp
   case rest2=>
    have hsh:∀ r,cG (al r b)=.list ((ag r b).map fun g=>.list (((srt g).map wS).map .str)):=fun r=>by unfold cG al;rw [ET];rfl
    have hts:(bE row).map (fun r=>F4 (bZ (al r b)))=(da row b).map .str:=by unfold da;rw [ET];rfl
    have hzt:(da row b).length<=1000:=by unfold da;rw [EF];exact EW rfl
    have hf5:(dU row b).length<=5:=EH (FL _ _) (by rw [FV];decide)
    have hzd:(bM (da row b)).length<=1000:=by rw [pl.h6,EF];exact EH hf5 (by decide)
    have hfm:∀ k∈dU row b,k<5:=fun k hk=>Ef.mp (FM.mp hk).1
    have' hok6:∀ x∈bM (da row b),Fo x=true:=fun x hx=>by
     rw [pl.h6] at hx
     obtain ⟨k,hk,rfl⟩:=EO.mp hx;exact (pl.sh _ (hX (hfm k hk))).1
    refine' aA ?s7 (aA ?s8 (aA ?s9 (aA ?s10 (aA (aN (fA (aY.of (dS ?t11) ?d11) (aY.of ?t12 ?d12)) aH) (aA (aN (aY.of ?t13 ?d13) aH) (a8 (aT ?r14)))))))
    case s7=>
     wtm_at "Da"
     case hc=>
      rw [ET]
      refine' cN (f:=fun r=>cG (al r b)) rfl ?ha ?hee ?hsu
      case ha=>intro r hr';dsimp only [Function.comp];wtm_at "Ma"
      case hsu=>intro r hr';wtm_at "Msub"
      case hee=>
       intro r hr';have a5:=pl.rd r hr';refine' aG.of (a':=.dat (cG (al r b))) ?cc (by rw [hsh])
       case cc=>
        refine' dN ?ck3 ?hi3 ?hfr3 ?hcl3 ?hbl3 ?hc3 ?hz3 ?hf3
        case ck3=>wtm_at "Mcompok"
        case hi3=>wtm_at "Mi"
        case hf3=>(intro _ _;rfl)
        case hfr3=>wtm_at "Mfrees"
        case hcl3=>wtm_at "Mclos"
        case hbl3=>wtm_at "Mblank"
        case hz3=>rw [EF,ER];omega
        case hc3=>
         dsimp only [EZ]
         rw [dZ]
         refine' cN (f:=fun g=>.list (((srt g).map wS).map .str)) rfl ?ha3 ?he3 ?hs3
         case ha3=>intro g hg;wtm_at "Ma"
         case hs3=>intro g hg;wtm_at "Msub"
         case he3=>
          intro g hg;have g4:∀ x∈srt g,x<4:=fun x hx=>(a5.2 g hg).2 x (eJ.mp hx)
          refine' aG.of (ah ?f4 (kp_ H (by kernel_rfl)) (aZ (bF (aG.of (cu ?k1 (bF ?k2 bR (by with_unfolding_all rfl)) (tV (ns:=g.map fun n:Nat=>(n:Int)) ?z)) ?k3) bR (by with_unfolding_all rfl)) (by with_unfolding_all rfl)) (kQ H (is:=srt g) g4 ?z2) (by show 2<=11;decide) rfl (by intro _;with_unfolding_all rfl)) (by rw [sR g4])
          case f4=>wtm_at "Me"
          case k1=>wtm_at "Me"
          case k2=>refine' aG.of (a:=.dat (be g)) ?k4 (by unfold be;rw [ET];rfl);wtm_at "Me"
          case k3=>rw [x7,ET];rfl
          case z=>rw [EF];have:=(a5.2 g hg).1;omega
          case z2=>rw [hZ];have:=(a5.2 g hg).1;omega
     case hz=>rw [EF,ER];exact EW rfl
    case s8=>
     wtm_at "Da"
     case hc=>
      rw [ET]
      refine' cN (f:=fun r=>.str (bZ (al r b))) rfl ?ha ?hee ?hsu
      case ha=>intro r hr';dsimp only [Function.comp];wtm_at "Ma"
      case hsu=>intro r hr';wtm_at "Msub"
      case hee=>
       intro r hr';obtain ⟨b1,b2⟩:=pl.tx r hr';have a5:=pl.rd r hr';refine' ah ?f (kp_ H (by kernel_rfl)) (aZ ?l (by with_unfolding_all rfl)) (uQ H hjp hjz ?bz b1 b2) (by show 7<=11;decide) rfl (by intro _;with_unfolding_all rfl)
       case f=>wtm_at "Me"
       case l=>unfold cG;wtm_at "Ml"
       case bz=>unfold al;rw [EF];omega
     case hz=>rw [EF,ER];exact EW rfl
    case s9=>
     wtm_at "Da"
     case hc=>
      rw [show jC 0 (Hv 5)=(EQ 5).map fun k:Nat=>AV.dat (nD k) from rfl]
      refine' cT (p:=fun k=>!((bE row).take k).any fun r=>au r b==au (df row k) b) (f:=fun k=>nD k) ?ha ?htt ?hee ?hsu
      case ha=>intro k hk;wtm_at "Ma"
      case hsu=>intro k hk;wtm_at "Msub"
      case hee=>intro k hk hp;wtm_at "Me"
      case htt=>
       intro k hk;have' hk5:k<5:=by simpa using hk
       have h0:(0:Int)<=(k:Int):=E7 k;have h1:(k:Int)<2 ^ 63:=by omega
       have hd:=nT (row:=row) (f:=fun r=>gK (au r b)) hk5
       refine' cm (aY.of (ai ?k1 ?k2 (OpG.of2 (fD ((dK (au (df row k) b)).shaped (by decide)) ?y2))) ?e9)
       case k1=>wtm_at "Me"
       case k2=>wtm_at "Me"
       case y2=>rw [k7,<- Iu];exact zV fun r=>dK _
       case e9=>
        rw [k7,<- Iu,L8]
        congr 2
        funext r
        exact hY _ _
     case hz=>rw [EF,ER];exact EH (FL _ _) (by rw [FV];decide)
    case s10=>
     refine' aB (ah ?fz (kp_ H (by kernel_rfl)) (aZ (bF (aG.of (a:=.dat (.list ((bE row).map fun r=>.str (bZ (al r b))))) ?k1z (by rw [hts])) bR (by with_unfolding_all rfl)) (by with_unfolding_all rfl)) (lp H (ws:=da row b) hzt) (by show 1<=11;decide) rfl (by intro _;with_unfolding_all rfl)) ?tz
     case fz=>wtm_at "Me"
     case k1z=>wtm_at "Me"
     case tz=>wtm_at "Ma"
    case t11=>
     refine' bV (cu ?k1z ?k2z (rX (bp rfl)) (by with_unfolding_all rfl)) dW (by intro _;with_unfolding_all rfl)
     case k1z=>wtm_at "Me"
     case k2z=>wtm_at "Ml"
    case d11=>rfl
    case t12=>
     refine' ai (mD ?k1z ?k2z (bp rfl) hzd rfl (by intro _;with_unfolding_all rfl) (by with_unfolding_all rfl)) (dN (ds:=(dU row b).map fun k=>.tuple [.str (bZ (al (df row k) b)),.none]) ?ck4 ?hi4 ?hfr4 ?hcl4 ?hbl4 ?hc4 ?hz4 ?hf4) (OpG.of2 (ir ?y1z ?y2z))
     case k1z=>wtm_at "Me"
     case k2z=>wtm_at "Me"
     case ck4=>wtm_at "Mcompok"
     case hi4=>wtm_at "Mi"
     case hf4=>(intro _ _;rfl)
     case hfr4=>wtm_at "Mfrees"
     case hcl4=>wtm_at "Mclos"
     case hbl4=>wtm_at "Mblank"
     case hz4=>rw [EF,ER];exact EH hf5 (by decide)
     case hc4=>
      dsimp only [EZ]
      rw [ET]
      refine' cN (v:=fun k:Nat=>AV.dat (nD k)) (f:=fun k=>.tuple [.str (bZ (al (df row k) b)),.none]) rfl ?ha4 ?he4 ?hs4
      case ha4=>intro k hk;wtm_at "Ma"
      case hs4=>intro k hk;wtm_at "Msub"
      case he4=>
       intro k hk;have' hk5:=hfm k hk;have h0:(0:Int)<=(k:Int):=E7 k;have h1:(k:Int)<2 ^ 63:=by omega
       have hd:=nT (row:=row) (f:=fun r=>F4 (bZ (al r b))) hk5
       wtm_at "Me"
     case y1z=>exact (cS fun d hd=>by obtain ⟨x,hx,rfl⟩:=EO.mp hd;exact qR (hok6 x hx)).shaped (by decide:2<=64)
     case y2z=>exact (cS fun d hd=>by obtain ⟨x,hx,rfl⟩:=EO.mp hd;exact qR (pl.sh _ (hX (hfm x hx))).1).shaped (by decide:2<=64)
    case d12=>
     rw [pl.h6]
     exact lD (f:=fun x:Str=>.tuple [.str x,.none]) (fun x y=>by simp [FF,PyData.eqvAll]) ((dU row b).map fun k=>bZ (al (df row k) b)) rfl (by rw [ET];rfl)
    case t13=>
     refine' ai (ah ?fx (kp_ H (by kernel_rfl)) (aZ ?lx (by with_unfolding_all rfl)) (oQ H ?dsx ?dzx ?dfzx) (by show 2<=11;decide) rfl (by intro _;with_unfolding_all rfl)) (dN (ds:=(dU row b).map fun k=>cG (al (df row k) b)) ?ck5 ?hi5 ?hfr5 ?hcl5 ?hbl5 ?hc5 ?hz5 ?hf5) (OpG.of2 (ir ?y1x ?y2x))
     case fx=>wtm_at "Me"
     case lx=>wtm_at "Ml"
     case dsx=>exact fun d hd=>by obtain ⟨r,hr',rfl⟩:=EO.mp hd;exact (fM (pl.sh r hr').2).shaped (by decide)
     case dzx=>rw [EF];exact EW rfl
     case dfzx=>intro i hi;rw [EX];exact E8 (hfz i hi) (EP _ _)
     case ck5=>wtm_at "Mcompok"
     case hi5=>wtm_at "Mi"
     case hf5=>(intro _ _;rfl)
     case hfr5=>wtm_at "Mfrees"
     case hcl5=>wtm_at "Mclos"
     case hbl5=>wtm_at "Mblank"
     case hz5=>rw [EF,ER];exact EH hf5 (by decide)
     case hc5=>
      dsimp only [EZ]
      rw [ET]
      refine' cN (v:=fun k:Nat=>AV.dat (nD k)) (f:=fun k=>cG (al (df row k) b)) rfl ?ha5 ?he5 ?hs5
      case ha5=>intro k hk;wtm_at "Ma"
      case hs5=>intro k hk;wtm_at "Msub"
      case he5=>
       intro k hk;have' hk5:=hfm k hk;have h0:(0:Int)<=(k:Int):=E7 k;have h1:(k:Int)<2 ^ 63:=by omega
       have hd:=nT (row:=row) (f:=fun r=>cG (al r b)) hk5
       wtm_at "Me"
     case y1x=>rw [pl.h7];exact (cS fun d hd=>by obtain ⟨x,hx,rfl⟩:=EO.mp hd;exact fM (pl.sh _ (hX (hfm x hx))).2).shaped (by decide:3<=64)
     case y2x=>exact (cS fun d hd=>by obtain ⟨x,hx,rfl⟩:=EO.mp hd;exact fM (pl.sh _ (hX (hfm x hx))).2).shaped (by decide:3<=64)
    case d13=>
     rw [pl.h7]
     exact lD (f:=cG) jV ((dU row b).map fun k=>al (df row k) b) (by rw [ET];rfl) (by rw [ET];rfl)
    case r14=>
     obtain ⟨k,g,r1,r2,r3⟩:=pl.rdb;have hs0:((bE row).map fun r=>cG (al r b))[(0:Int).toNat]? = some (cG (al row b)):=rfl
     have htx0:((bE row).map fun r=>F4 (bZ (al r b)))[(0:Int).toNat]? = some (.str (bZ (al row b))):=rfl
     have hls:((al row b).map bI).length<=1000:=by rw [EF];unfold al;rw [EF];omega
     have' hback:GY (((al row b).map bI).map fun l=>GY ((g l).map .str))=cG (al row b):=by
      unfold cG
      rw [ET]
      exact congrArg _ (FR fun ws hw=>by show GY ((g (bI ws)).map .str)=_;rw [(r3 ws hw).2.2.1])
     refine' aG.of (nJ (aG.of (a':=.dat (cG (al row b))) (ah ?fw (kp_ H (by kernel_rfl)) (aZ ?lw (by with_unfolding_all rfl)) (uG H (g:=g) ?dfzw r1 r2 hls ?hlw) (by show 9<=11;decide) rfl (by intro _;with_unfolding_all rfl)) (by rw [hback])) ?k2w (OpG.of2 (w8 (a:=cG (al row b)) (b:=cG (al row b)) ?y1w ?y2w))) ?eew
     case fw=>wtm_at "Me"
     case lw=>wtm_at "Ml"
     case k2w=>wtm_at "Me"
     case dfzw=>intro i hi;rw [EX];exact E8 (hfz i hi) (EP _ _)
     case hlw=>
      intro l hl;obtain ⟨ws,hw,rfl⟩:=EO.mp hl;obtain ⟨q1,q2,q3,q4⟩:=r3 ws hw
      rw [q3];exact ⟨q1,q2,q4⟩
     case y1w=>exact (fM (pl.sh row hmem).2).shaped (by decide)
     case y2w=>exact (fM (pl.sh row hmem).2).shaped (by decide)
     case eew=>rw [jV];simp
end
theorem nP:∀ i,i<4->∀ j,j<4->wS i=wS j->i=j:=by decide +kernel
theorem rG:∀ {g g':List Nat},(∀ x∈g,x<4)->(∀ x∈g',x<4)->g.map wS=g'.map wS->g=g':=by
 intro g
 induction g with
 | nil=>exact fun zz zz h=>(HV.mp h.symm).symm
 | cons x g ih=>
  intro g' h1 h2 h
  cases g' with
  | nil=>cases h
  | cons y g'=>
  rw [E9,E9] at h
  obtain ⟨a,c⟩:=HX.inj h
  rw [nP x (h1 x (.head _)) y (h2 y (.head _)) a,ih (fun z hz=>h1 z (.tail _ hz)) (fun z hz=>h2 z (.tail _ hz)) c]
theorem pj {g:List Nat} (h4:∀ x∈g,x<4) (h:g.Nodup):(g.map wS).Nodup:=by
 rw [List.Nodup,Ho]
 exact HQ.imp_of_mem (fun hx hy ne e=>ne (nP _ (h4 _ hx) _ (h4 _ hy) e)) h
theorem ii (ws:List Str):ws.Nodup->bM ws=ws:=by
 refine fO (P:=fun ws=>ws.Nodup->bM ws=ws) (fun zz=>rfl) (fun ws w ih h=>?_) ws
 rw [GC] at h
 rw [en,ih h.1,if_neg]
 intro hany
 obtain ⟨y,hy,e⟩:=HD.mp hany
 exact h.2.2 y hy w (.head _) (by simpa using e)
theorem n0:∀ (ws t:List Str),cZ t ws=some []↔ws.Perm t:=by
 intro ws
 induction ws with
 | nil=>
  intro t
  rw [cZ,Ju]
  exact ⟨fun h=>GF.inj h,fun h=>by rw [h]⟩
 | cons w ws ih=>
  intro t
  rw [cZ,List.cons_perm_iff_perm_erase]
  by_cases h:w∈t
  ·rw [if_pos h,ih]
   exact ⟨fun q=>⟨h,q⟩,fun q=>q.2⟩
  ·rw [if_neg h]
   exact ⟨fun q=>(nomatch q),fun q=>absurd q.1 h⟩
theorem lZ {g g':List Nat} (h4:∀ x∈g,x<4) (h4':∀ x∈g',x<4) (hn:g.Nodup) (hn':g'.Nodup):b9 (g.map wS) (g'.map wS)=true↔srt g=srt g':=by
 have n1:=pj h4 hn
 have n2:=pj h4' hn'
 have' e1:b9 (g.map wS) (g'.map wS)=true↔cZ (g'.map wS) (g.map wS)=some []:=by
  unfold b9
  rw [ii _ n1,ii _ n2]
  cases cZ (g'.map wS) (g.map wS) with
  | none=>exact ⟨fun q=>(nomatch q),fun q=>(nomatch q)⟩
  | some t=>cases t with
   | nil=>exact ⟨fun zz=>rfl,fun zz=>rfl⟩
   | cons a t=>exact ⟨fun q=>(nomatch q),fun q=>(nomatch q)⟩
 rw [e1,n0,List.perm_ext_iff_of_nodup n1 n2]
 constructor
 ·intro h
  refine yI hn hn' fun x=>⟨fun q=>?_,fun q=>?_⟩
  ·obtain ⟨y,hy,e⟩:=EO.mp ((h (wS x)).mp (EO.mpr ⟨x,q,rfl⟩))
   exact nP y (h4' y hy) x (h4 x q) e▸hy
  ·obtain ⟨y,hy,e⟩:=EO.mp ((h (wS x)).mpr (EO.mpr ⟨x,q,rfl⟩))
   exact nP y (h4 y hy) x (h4' x q) e▸hy
 ·intro h w
  have' hm:∀ x,x∈g↔x∈g':=fun x=>by rw [<- eJ,h,eJ]
  rw [EO,EO]
  exact exists_congr fun x=>by rw [hm x]
theorem ui:∀ {R R':List (List Nat)},(∀ g∈R,g.Nodup/\∀ x∈g,x<4)->(∀ g∈R',g.Nodup/\∀ x∈g,x<4)->(jH R R'=true↔R.map srt=R'.map srt):=by
 intro R
 induction R with
 | nil=>
  intro R' _ _
  cases R' with
  | nil=>exact ⟨fun zz=>rfl,fun zz=>rfl⟩
  | cons _ _=>exact ⟨fun h=>(nomatch h),fun h=>(nomatch h)⟩
 | cons g R ih0=>
  intro R' h h'
  cases R' with
  | nil=>exact ⟨fun h=>(nomatch h),fun h=>(nomatch h)⟩
  | cons g' R'=>
   have' ih:=ih0 (fun x hx=>h x (.tail _ hx)) fun x hx=>h' x (.tail _ hx)
   have' o:=lZ (h g (.head _)).2 (h' g' (.head _)).2 (h g (.head _)).1 (h' g' (.head _)).1;have' e:jH (g :: R) (g' :: R')=(b9 (g.map wS) (g'.map wS) && jH R R'):=by
    unfold jH
    rw [E0,E0,F8,GJ]
    have:(R.length+1==R'.length+1)=(R.length==R'.length):=by rw [FY,beq_iff_eq,beq_iff_eq];omega
    rw [this]
    cases R.length==R'.length<;>cases b9 (g.map wS) (g'.map wS)<;>rfl
   rw [e,Ea,ih,o,E9,E9]
   exact ⟨fun ⟨a,c⟩=>by rw [a,c],fun q=>HX.inj q⟩
set_option tactic.hygienic true in
theorem zE {g:List Nat} (h:∀ x∈g,x<4) (hn:g.Nodup):srt g=yX (g.contains 0) (g.contains 1) (g.contains 2) (g.contains 3):=by
 refine iX (rK hn) ?_ fun x=>?_
 ·generalize g.contains 0=a,g.contains 1=c,g.contains 2=d,g.contains 3=e
  revert a c d e;decide
 ·rw [eJ]
  constructor
  ·intro hx
   have:=h x hx;have:x=0\/x=1\/x=2\/x=3:=by omega
   rcases this with rfl | rfl | rfl | rfl<;>simp [yX,hx]
  ·intro hx
   unfold yX at hx
   simp only [EG] at hx
   rcases hx with ((hx | hx) | hx) | hx<;>split at hx<;>first | (cases hx;done) | (rename_i q;obtain rfl:=EJ.mp hx;exact FN.mp q)
theorem ye {g:List Nat} (h:∀ x∈g,x<4) (hn:g.Nodup) (h0:g≠[]):rn (srt g)=true:=by
 rw [zE h hn]
 refine yN _ _ _ _ ?_
 cases g with
 | nil=>exact absurd rfl h0
 | cons x g=>
  have:=h x (.head _);have:x=0\/x=1\/x=2\/x=3:=by omega
  rcases this with rfl | rfl | rfl | rfl<;>simp
theorem vc {q w:Str} (h:nS q w=true):q.length<=100/\Fo q=true:=by
 unfold nS at h
 simp only [Ea,decide_eq_true_eq] at h
 exact ⟨h.2,h.1.2⟩
theorem lH {is:List Nat} (h:∀ i∈is,i<4) (hl:is.length<=5) (h0:is≠[]):(∀ y∈is.map wS,QOk y)/\JoinOk " " ((is.map wS).map bU)=true/\(bI (is.map wS)).length<=100000/\toks 6 (bI (is.map wS)).cps.toList .S=some (is.map wS):=by
 have hw:∀ i∈is,qOk (wS i)=true/\nS (bU (wS i)) (wS i)=true:=fun i hi=>by
  have:=yQ i (h i hi)
  rwa [Ea] at this
 have hq:∀ q∈(is.map wS).map bU,q.length<=100:=fun q hq=>by
  obtain ⟨w,hw',rfl⟩:=EO.mp hq;obtain ⟨i,hi,rfl⟩:=EO.mp hw';exact (vc (hw i hi).2).1
 refine ⟨fun y hy=>?_,m2 hq (by simp;omega),?_,?_⟩
 ·obtain ⟨i,hi,rfl⟩:=EO.mp hy
  exact .of (hw i hi).1
 ·have:=mU _ hq
  rw [EF,EF] at this
  unfold bI;omega
 ·have:=mW (is.map fun i=>(bU (wS i),wS i)) 6 (by simpa using h0) (by simp;omega) fun p hp=>by
   obtain ⟨i,hi,rfl⟩:=EO.mp hp;exact (hw i hi).2
  rw [ET,ET] at this
  unfold bI
  rw [ET];exact this
structure Tab (R:List (List Nat)):Prop where
 len:R.length<=5
 ne:R≠[]
 gr:∀ g∈R,g≠[]/\g.Nodup/\g.length<=5/\∀ x∈g,x<4
noncomputable def gM (R:List (List Nat)):List (List Str):=R.map fun g=>(srt g).map wS
theorem Tab.line {R:List (List Nat)} (T:Tab R) {ws:List Str} (h:ws∈gM R):qOk (bI ws)=true/\nS (bU (bI ws)) (bI ws)=true/\(bI ws).length<=100/\ws.length<=1000/\(∀ y∈ws,QOk y)/\JoinOk " " (ws.map bU)=true/\toks 6 (bI ws).cps.toList .S=some ws/\∀ y∈ws,Fo y=true:=by
 obtain ⟨g,hg,rfl⟩:=EO.mp h
 obtain ⟨g0,gn,gl,g4⟩:=T.gr g hg
 have hl:=ye g4 gn g0
 unfold rn at hl
 simp only [Ea,decide_eq_true_eq] at hl
 have s4:∀ i∈srt g,i<4:=fun i hi=>g4 i (eJ.mp hi)
 obtain ⟨b1,b2,b3,b4⟩:=lH (is:=srt g) s4 (by rw [hZ];exact gl) fun e=>g0 (GQ (by rw [<- hZ,e];rfl))
 refine ⟨hl.1.1,hl.1.2,hl.2,by rw [EF,hZ];omega,b1,b2,b4,fun y hy=>?_⟩
 obtain ⟨i,hi,rfl⟩:=EO.mp hy
 exact pA (s4 i hi)
theorem Tab.text {R:List (List Nat)} (T:Tab R):JoinOk " " (((gM R).map bI).map bU)=true/\(bZ (gM R)).length<=100000/\Fo (bZ (gM R))=true/\toks 6 (bZ (gM R)).cps.toList .S=some ((gM R).map bI):=by
 have hq:∀ q∈((gM R).map bI).map bU,q.length<=100/\Fo q=true:=fun q hq=>by
  obtain ⟨w,hw',rfl⟩:=EO.mp hq;obtain ⟨ws,hi,rfl⟩:=EO.mp hw';exact vc (T.line hi).2.1
 have hl:(((gM R).map bI).map bU).length=R.length:=by unfold gM;rw [EF,EF,EF]
 have h5:=T.len
 refine ⟨m2 (fun q h=>(hq q h).1) (by omega),?_,re _ fun q h=>(hq q h).2,?_⟩
 ·have:=mU _ fun q h=>(hq q h).1
  unfold bZ bI at *;omega
 ·have:=mW ((gM R).map fun ws=>(bU (bI ws),bI ws)) 6 (by unfold gM;simpa using T.ne) (by unfold gM;simp;omega) fun p hp=>by
   obtain ⟨ws,hi,rfl⟩:=EO.mp hp;exact (T.line hi).2.1
  rw [ET,ET] at this
  unfold bZ
  rw [bI,ET];exact this
theorem iV {α β:Type} {f:α->β}:∀ {xs ys:List α},(∀ x∈xs,∀ y∈ys,f x=f y->x=y)->xs.map f=ys.map f->xs=ys:=by
 intro xs
 induction xs with
 | nil=>exact fun zz h=>(HV.mp h.symm).symm
 | cons x xs ih=>
  intro ys h e
  cases ys with
  | nil=>cases e
  | cons y ys=>
  obtain ⟨a,c⟩:=HX.inj e
  rw [h x (.head _) y (.head _) a,ih (fun x hx y hy=>h x (.tail _ hx) y (.tail _ hy)) c]
theorem mX {R R':List (List Nat)} (T:Tab R) (T':Tab R'):gM R=gM R'↔R.map srt=R'.map srt:=by
 have e:∀ R,gM R=(R.map srt).map fun g=>g.map wS:=fun R=>by unfold gM;rw [ET];rfl
 refine ⟨fun h=>?_,fun h=>by rw [e,e,h]⟩
 rw [e,e] at h
 refine iV (fun x hx y hy q=>?_) h
 obtain ⟨g,hg,rfl⟩:=EO.mp hx
 obtain ⟨g',hg',rfl⟩:=EO.mp hy
 exact rG (fun z hz=>(T.gr g hg).2.2.2 z (eJ.mp hz)) (fun z hz=>(T'.gr g' hg').2.2.2 z (eJ.mp hz)) q
theorem xe {R R':List (List Nat)} (T:Tab R) (T':Tab R'):bZ (gM R)=bZ (gM R')↔R.map srt=R'.map srt:=by
 rw [<- mX T T']
 refine ⟨fun h=>?_,fun h=>by rw [h]⟩
 have h1:=T.text.2.2.2
 have' h2:=T'.text.2.2.2
 rw [h,h2] at h1
 refine iV (fun ws hw ws' hw' q=>?_) (GF.inj h1).symm
 have a:=(T.line hw).2.2.2.2.2.2.1
 have' c:=(T'.line hw').2.2.2.2.2.2.1
 rw [q,c] at a
 exact (GF.inj a).symm
theorem ox {α κ:Type} [BEq κ] [LawfulBEq κ] [Inhabited α] (f:α->PyData) (k:α->κ):∀ (xs:List α),(∀ x∈xs,∀ y∈xs,FF (f x) (f y)=(k x==k y))->cy (xs.map f)=((EQ xs.length).filter fun i=>!((xs.take i).any fun y=>k y==k (xs.getD i default))).map fun i=>f (xs.getD i default):=by
 refine fO (fun zz=>rfl) fun xs x ih h=>?_
 have ih:=ih fun y hy z hz=>h y (EG.mpr (.inl hy)) z (EG.mpr (.inl hz))
 have hx:x∈xs++[x]:=EG.mpr (.inr (.head _))
 have hat:∀ i,i<xs.length->(xs++[x]).getD i default=xs.getD i default:=fun i hi=>by
  rw [Et,Et,Eg hi]
 have' hlast:(xs++[x]).getD xs.length default=x:=by simp [Et]
 have' hany:(cy (xs.map f)).any (fun d=>FF d (f x))=xs.any fun y=>k y==k x:=by
  rw [FY,HD,HD]
  constructor
  ·rintro ⟨d,hd,e⟩
   obtain ⟨y,hy,rfl⟩:=EO.mp (mK _ d hd);exact ⟨y,hy,by rw [<- h y (EG.mpr (.inl hy)) x hx];exact e⟩
  ·rintro ⟨y,hy,e⟩
   have' key:∀ n,(∀ i,i<n->∀ hi:i<xs.length,k xs[i]≠k x)\/∃ i,∃ hi:i<xs.length,k xs[i]=k x/\∀ j,j<i->∀ hj:j<xs.length,k xs[j]≠k x:=by
    intro n
    induction n with
    | zero=>exact .inl fun i hi=>absurd hi (Hj _)
    | succ n ihn=>
     rcases ihn with l | r
     ·by_cases hn:∃ hn:n<xs.length,k xs[n]=k x
      ·obtain ⟨hn,e⟩:=hn
       exact .inr ⟨n,hn,e,l⟩
      ·refine .inl fun i hi hl e=>?_
       rcases Hf (G0 hi) with q | q
       ·exact l i q hl e
       ·subst q;exact hn ⟨hl,e⟩
     ·exact .inr r
   rcases key xs.length with l | ⟨i,hi,e1,e2⟩
   ·obtain ⟨i,hi,rfl⟩:=List.getElem_of_mem hy
    exact absurd (by simpa using e) (l i hi hi)
   ·refine ⟨f xs[i],?_,by rw [h _ (EG.mpr (.inl (Gi hi))) x hx,e1];exact beq_self_eq_true _⟩
    rw [ih]
    have hgi:xs.getD i default=xs[i]:=by simp [Et,hi]
    refine EO.mpr ⟨i,FM.mpr ⟨Ef.mpr hi,?_⟩,by rw [hgi]⟩
    rw [GE,Ga,hgi]
    intro q;obtain ⟨y,hy,e⟩:=HD.mp q;obtain ⟨j,hj,rfl⟩:=List.mem_take_iff_getElem.mp hy
    rw [Nat.lt_min] at hj
    exact e2 j hj.1 hj.2 (by rw [<- e1];simpa using e)
 rw [Ek,J7,dg,hany,EX,Ei,HI,IP,Ek,ih]
 have e1:((EQ xs.length).filter fun i=>!((xs++[x]).take i).any fun y=>k y==k ((xs++[x]).getD i default))=(EQ xs.length).filter fun i=>!((xs.take i).any fun y=>k y==k (xs.getD i default)):=
  GS fun i hi=>by
   have hi:=Ef.mp hi
   rw [hat i hi,H8 (El hi)]
 have e2:((EQ xs.length).filter fun i=>!((xs.take i).any fun y=>k y==k (xs.getD i default))).map (fun i=>f ((xs++[x]).getD i default))=((EQ xs.length).filter fun i=>!((xs.take i).any fun y=>k y==k (xs.getD i default))).map fun i=>f (xs.getD i default):=
  FR fun i hi=>by rw [hat i (Ef.mp (FM.mp hi).1)]
 rw [e1,e2,Ex,KY,hlast,H8 (EK _),Fw (EK _)]
 cases xs.any fun y=>k y==k x with
 | true=>simp
 | false=>simp
section
variable {row:List Nat} {b:Nat->Nat->Bool}
theorem tF (h:∀ x∈row,x<4):∀ p,row.getD p 0<4:=fun p=>by
 rw [Et]
 cases e:row[p]? with
 | none=>exact Nat.zero_lt_succ _
 | some x=>exact h x (EN e)
theorem Ar (B:Bd b) (hr:row.length=5) (h:∀ x∈row,x<4):Tab (ag row b):=by
 obtain ⟨k,h1,h2,h3,e⟩:=eV row b
 refine ⟨by rw [e,EF,FV];exact h1,fun q=>?_,fun g hg=>?_⟩
 ·have h0:0∈an row b 5:=o8 row b 0 (by omega)
  have e2:=g9 row b
  rw [q] at e2
  have' e3:an row b 5=[]:=HV.mp e2.symm
  rw [e3] at h0;cases h0
 ·have hn:=qG B g hg
  rw [e] at hg
  obtain ⟨t,ht,rfl⟩:=EO.mp hg;have h4:∀ x∈(bJ row b t).2.map fun p=>row.getD p 0,x<4:=fun x hx=>by
   obtain ⟨p,_,rfl⟩:=EO.mp hx;exact tF h p
  exact ⟨fun q=>h2 t (Ef.mp ht) (HV.mp q),hn,EH (fU hn h4) (by decide),h4⟩
theorem BR (B:Bd b) (hr:row.length=5) (h4:∀ x∈row,x<4):PL row b:=by
 have hrows:=sm hr h4
 have tabs:∀ r∈bE row,Tab (ag r b):=fun r hm=>Ar B (hrows r hm).1 (hrows r hm).2.1
 have hself:row∈bE row:=.head _
 have same:∀ r∈bE row,∀ r'∈bE row,((ag r b).map srt=(ag r' b).map srt↔au r b=au r' b):=fun r h r' h'=>
  vA B (hrows r h).1 (hrows r' h').1 (tF (hrows r h).2.1) (tF (hrows r' h').2.1)
 have hd:∀ (f:List Nat->PyData),(∀ x∈bE row,∀ y∈bE row,FF (f x) (f y)=(au x b==au y b))->cy ((bE row).map f)=(dU row b).map fun k=>f (df row k):=fun f hf=>
  ox f (fun r=>au r b) (bE row) hf
 have hbeq:∀ {α β:Type} [BEq α] [LawfulBEq α] [BEq β] [LawfulBEq β] {a a':α} {c c':β},(a=a'↔c=c')->(a==a')=(c==c'):=fun h=>by rw [FY,beq_iff_eq,beq_iff_eq];exact h
 refine ⟨fun r h=>⟨(tabs r h).len,fun g hg=>((tabs r h).gr g hg).2.2⟩,?_,⟨?_,fun x hx=>?_⟩,ku B,mH B hr,vL B hr,rA B,fun r h=>⟨fun ws hw=>?_,(tabs r h).text.1⟩,fun r h=>⟨(tabs r h).text.2.2.1,fun ws hw=>((tabs r h).line hw).2.2.2.2.2.2.2⟩,?_,?_,⟨6,fun l=>(toks 6 l.cps.toList .S).getD [],(tabs row hself).text.2.1,(tabs row hself).text.2.2.2,fun ws hw=>?_⟩,?_⟩
 ·rw [g9,EF]
  exact EH (fU (hH row b 5).1 (hH row b 5).2) (by decide)
 ·unfold dz
  rw [EF,(gi row b 5 (EK _)).2];exact EK _
 ·obtain ⟨p,_,rfl⟩:=EO.mp hx
  exact tF h4 p
 ·have:=(tabs r h).line hw
  exact ⟨this.2.2.2.1,this.2.2.2.2.1,this.2.2.2.2.2.1,.of this.1⟩
 ·have h:=hd (fun r=>.str (bZ (al r b))) fun x hx y hy=>by
   rw [kO];exact hbeq ((xe (tabs x hx) (tabs y hy)).trans (same x hx y hy))
  have e1:(bE row).map (fun r=>F4 (bZ (al r b)))=(da row b).map .str:=by unfold da;rw [ET];rfl
  have e2:(dU row b).map (fun k=>F4 (bZ (al (df row k) b)))=((dU row b).map fun k=>bZ (al (df row k) b)).map .str:=by rw [ET];rfl
  rw [e1,e2,jR] at h
  exact iV (fun x zz y zz q=>F4.inj q) h
 ·exact hd _ fun x hx y hy=>by rw [jV];exact hbeq ((mX (tabs x hx) (tabs y hy)).trans (same x hx y hy))
 ·have:=(tabs row hself).line hw
  exact ⟨by omega,this.2.2.2.2.2.2.1,by dsimp only;rw [this.2.2.2.2.2.2.1];rfl,this.2.2.2.1⟩
 ·refine FR fun r h=>?_
  rw [FY,beq_iff_eq,ui (fun g hg=>⟨((tabs row hself).gr g hg).2.1,((tabs row hself).gr g hg).2.2.2⟩) fun g hg=>⟨((tabs r h).gr g hg).2.1,((tabs r h).gr g hg).2.2.2⟩,same row hself r h]
  exact eq_comm
end
theorem uj (free:Int):Bd (gZ free):=by
 have' hf:∀ i j,dy i j=dy j i:=fun i j=>by
  unfold dy
  rcases Nat.lt_trichotomy i j with h | h | h
  ·rw [if_neg (Hu h),if_pos h,if_pos h,if_neg (Hu h)]
  ·rw [h]
  ·rw [if_pos h,if_neg (Hu h),if_neg (Hu h),if_pos h]
 refine ⟨fun x=>by unfold gZ;simp,fun x y=>?_⟩
 unfold gZ
 rw [hf x y,show (x==y)=(y==x) from Bool.beq_comm ..]
noncomputable def iU (script:List Int):List Nat:=((dI script).take 5).map fun c=>(c.fmod 4).toNat
theorem uv (script:List Int):(iU script).length=5:=by unfold iU dI;rw [EF,Im,gt];rfl
theorem xn (script:List Int):∀ x∈iU script,x<4:=fun x hx=>by
 obtain ⟨c,_,rfl⟩:=EO.mp hx
 have h1:=KS c (b:=4) (by decide)
 have h2:=Int.fmod_lt_of_pos c (b:=4) (by decide)
 omega
theorem tU (script:List Int):(be (iU script))=.list (((dI script).take 5).map fun c=>.int (c.fmod 4)):=by
 unfold be iU
 rw [ET]
 refine congrArg _ (FR fun c zz=>?_)
 show Fz _=_
 rw [Kp (KS c (by decide))]
section
variable {C:Cx} (H:bH C) {fz:List Nat} {σ:aC} {jp:Nat}
include H
theorem Bq {script:List Int} (hs:script.length<=1000) (hfz:∀ i∈fz,i<σ.length) (hjp:σ[jp]? = some (.code 866)) (hjz:jp∉fz) :
  aP C 13 fz (.ref 982) [.dat (.list (script.map .int))] [] σ (.dat (.bool true)) σ:=by
 have hr:=uv script
 have hr4:=xn script
 obtain ⟨w1,w2,w3,w4⟩:=lH hr4 (Ec hr) fun e=>by rw [e] at hr;cases hr
 have' h6:(dI script).length=6:=gt _ _
 have hz6:((dI script).map Fz).length<=FI:=by rw [EF,h6,ER];decide
 wtm_at "Dp"
 case hr=>exact .ret
 case h=>
  dsimp only;refine' aA ?s1 (aA ?s2 (aA ?s3 (aA (aN (aY.of ?t4 ?d4) aH) (a8 (aT ?r5)))))
  case s1=>
   refine' aB (ah ?f (kp_ H (by kernel_rfl)) (aZ ?l (by with_unfolding_all rfl)) (yi H hs hfz) (by show 2<=12;decide) rfl (by intro _;with_unfolding_all rfl)) ?t
   case f=>wtm_at "Me"
   case l=>wtm_at "Ml"
   case t=>wtm_at "Ma"
  case s2=>
   refine' eB (ds:=(iU script).map nD) ?ck ?hi ?hfr ?hcl ?hbl ?hc ?hz ?ht ?hsw ?hf ?he ?hw
   case ck=>wtm_at "Mcompok"
   case hi=>
    refine' fg ?kk (by with_unfolding_all rfl) (.name (by with_unfolding_all rfl))
    case kk=>wtm_at "Me"
   case hf=>(intro _ _;rfl)
   case he=>(intro _;rfl)
   case hw=>(intro _;rfl)
   case hsw=>(intro _;exact ⟨_,rfl⟩)
   case hfr=>wtm_at "Mfrees"
   case hcl=>wtm_at "Mclos"
   case hbl=>wtm_at "Mblank"
   case ht=>wtm_at "Ma"
   case hz=>rw [EF,hr,ER];decide
   case hc=>
    dsimp only [EZ]
    rw [k7,<- Iu,ET]
    refine' Cl.of (cN (v:=fun c:Int=>AV.dat (.int c)) (f:=fun c=>.int (c.fmod 4)) rfl ?ha ?hee ?hsu) ?hq
    case ha=>intro c hc';wtm_at "Ma"
    case hsu=>intro c hc';wtm_at "Msub"
    case hee=>intro c hc';wtm_at "Me"
    case hq=>exact (GY.inj (tU script)).symm
  case s3=>
   refine' aB (aG.of (ah ?f3 (kp_ H (by kernel_rfl)) (aZ (bF (aG.of (a:=.dat (.list ((iU script).map nD))) ?l3 rfl) bR (by with_unfolding_all rfl)) (by with_unfolding_all rfl)) (kQ H (is:=iU script) hr4 (by omega)) (by show 2<=12;decide) rfl (by intro _;with_unfolding_all rfl)) (by rw [sR hr4])) ?t3
   case f3=>wtm_at "Me"
   case l3=>wtm_at "Me"
   case t3=>wtm_at "Ma"
  case t4=>
   refine' ai (ah ?f4 (kp_ H (by kernel_rfl)) (aZ (bF ?x4 bR (by with_unfolding_all rfl)) (by with_unfolding_all rfl)) (mz H hfz w3 w4 ?z4) (by show 7<=12;decide) rfl (by intro _;with_unfolding_all rfl)) ?r4 (OpG.of2 (ir ?y1 ?y2))
   case f4=>wtm_at "Me"
   case x4=>
    refine' ah ?f5 (kp_ H (by kernel_rfl)) (aZ ?l5 (by with_unfolding_all rfl)) (nG H (ys:=(iU script).map wS) hjp hjz w1 ?z5 w2) (by show 5<=12;decide) rfl (by intro _;with_unfolding_all rfl)
    case f5=>wtm_at "Me"
    case l5=>wtm_at "Ml"
    case z5=>rw [EF];omega
   case z4=>rw [EF];omega
   case r4=>wtm_at "Me"
   case y1=>exact (cS fun d hd=>by obtain ⟨x,hx,rfl⟩:=EO.mp hd;obtain ⟨i,hi,rfl⟩:=EO.mp hx;exact nQ (pA (hr4 i hi))).shaped (by decide:1<=64)
   case y2=>exact (cS fun d hd=>by obtain ⟨x,hx,rfl⟩:=EO.mp hd;obtain ⟨i,hi,rfl⟩:=EO.mp hx;exact nQ (pA (hr4 i hi))).shaped (by decide:1<=64)
  case d4=>exact lD (f:=F4) (fun zz zz=>kO) _ rfl rfl
  case r5=>
   have h0:(0:Int)<=5:=by decide
   have h1:(5:Int)<2 ^ 63:=by decide
   have hd:((dI script).map Fz)[((5:Int)).toNat]? = some (.int ((dI script).getD 5 0)):=by
    show ((dI script).map Fz)[5]? = _
    rw [Em,Et,Eb (show 5<(dI script).length by omega)];rfl
   refine' ah ?f6 (kp_ H (by kernel_rfl)) (aZ (bF (aG.of (a:=.dat (.list ((iU script).map nD))) ?a6 rfl) (bF ?b6 bR (by with_unfolding_all rfl)) (by with_unfolding_all rfl)) (by with_unfolding_all rfl)) (sC H hr hr4 (BR (uj ((dI script).getD 5 0)) hr hr4) hfz hjp hjz) (by show 12<=12;decide) rfl (by intro _;with_unfolding_all rfl)
   case f6=>wtm_at "Me"
   case a6=>wtm_at "Me"
   case b6=>
    refine' ah ?f7 (kp_ H (by kernel_rfl)) (aZ ?l7 (by with_unfolding_all rfl)) (zT H hfz) (by show 2<=12;decide) rfl (by intro _;with_unfolding_all rfl)
    case f7=>wtm_at "Me"
    case l7=>wtm_at "Ml"
end
theorem ib {h:Heap} {b:Addr} {o:Obj} (e:h.get? b=some o) (hb:b≠866):(cL [866] h).get? b=some o:=Fc _ e fun q=>hb (EJ.mp q)
theorem zA {h:Heap} {b:Addr} {m:Str->Option Value} (hn:h.Ns b m) (hb:b≠866):(cL [866] h).Ns b m:=let ⟨o,es,ep,e,r⟩:=hn;⟨o,es,ep,ib e hb,r⟩
theorem rL {R:WRecords} {cl:Str->Option Addr} {h h':Heap}:∀ {ns:List Int} {vs:List Value} {as:List Addr},ReadsAllW R cl h vs (ns.map WData.int) as->∃ bs,FZ h' vs (ns.map Fz) bs:=by
 intro ns
 induction ns with
 | nil=>intro _ _ r;cases r;exact ⟨_,.nil⟩
 | cons n ns ih=>
  intro _ _ r
  cases r with
  | cons r rs=>
   cases r
   obtain ⟨bs,z⟩:=ih rs;exact ⟨_,.cons (.int n _) z⟩
theorem wv {args:List WData} (h:Ew.row.toRowW.claim.pre args=true):∃ ns:List Int,args=[.list (ns.map .int)]/\ns.length<=63:=by
 obtain ⟨h1,h2⟩:=pre_splitW h
 obtain ⟨d,r,rfl,hd,hr⟩:=hasAllW_cons (R:=[]) (e:=.list .int) (es:=[]) h1
 obtain rfl:=hasAllW_nil hr
 obtain ⟨ds,rfl,hi⟩:=hasW_list hd
 obtain ⟨ns,rfl⟩:=items_int hi
 refine ⟨ns,rfl,?_⟩
 have h2:WTm.holds [] (.and (.not (.lt (.lit (.int 63)) (.len (.arg 0)))) (.lit (.bool true))) {args:=[.list (ns.map .int)]}=true:=h2
 simp [WTm.holds,WTm.value] at h2
 rw [show less? (WData.int 63) (WData.int (ns.length:Int))=some (decide ((63:Int)<(ns.length:Int))) from rfl] at h2
 by_cases hc:(63:Int)<(ns.length:Int)
 ·rw [decide_eq_true hc] at h2
  exact absurd h2 (by decide)
 ·omega
theorem wc0 {b:Addr} (h:WC ⟨[866],[(866,[866])],[]⟩ b):b=866:=by
 obtain ⟨i,p,hp,_,hb⟩:=h
 cases i with
 | zero=>cases hp;exact EJ.mp hb
 | succ i=>cases hp
theorem B5 (P:Params):(Kw P).lookup 866=none:=by kernel_rfl
theorem holds_all:Ew.Holds:=hd fun w s₀ s₁ mg mb G Y a o pm cd doc dV kV hget hfd hcr hdf hmg hgens args vals as hpre hlay hrd hwell hlow=>by
 obtain ⟨ns,rfl,hlen⟩:=wv hpre
 obtain ⟨y1,⟨oy,y2⟩,y3⟩:=Y
 have y3:(Kw w.params).In s₁.heap:=y3
 have hsta:∀ {b:Addr} {m:Str->Option Value},s₁.heap.Ns b m->(cL [866] s₁.heap).Ns b m:=fun hn=>zA hn fun q=>by
  obtain ⟨o,es,ep,e,hd,_⟩:=hn
  rw [q,y1] at e;cases e;cases hd
 have ok:Cx.Ok ⟨Ew.prog,w,Kw w.params,cL [866] s₁.heap,mg,mb⟩:=by
  obtain ⟨bm,ob,BM⟩:=bmod_of_top G.T;refine ⟨fun b o e=>ib (y3 b o e) fun q=>?_,hsta G.T.g,hsta G.T.b,?_,⟨oy,ib y2 (by decide)⟩,⟨bm,ob,hsta BM.ns,BM.name,BM.ne,ib BM.obj fun q=>?_,BM.cls,BM.dict,BM.data⟩,G.T.builtins⟩
  ·rw [q,B5] at e;cases e
  ·obtain ⟨mc,h1,h2⟩:=G.T.nolimit
   exact ⟨mc,hsta h1,h2⟩
  ·have:=BM.obj
   rw [q,y1] at this;cases this;cases BM.data
 have H:bH ⟨Ew.prog,w,Kw w.params,cL [866] s₁.heap,mg,mb⟩:=⟨ok,rfl,rfl⟩
 obtain rfl:a=982:=by
  have' h1:mg (EE "law")=some (.ref 982):=(H.glob _).trans (by kernel_rfl)
  have h2:mg (EE "law")=some (.ref a):=hmg
  rw [h1] at h2;cases h2;rfl
 have' hlt:866<s₁.heap.objs.size:=Ed y1
 have Gd:aX ⟨Ew.prog,w,Kw w.params,cL [866] s₁.heap,mg,mb⟩ ⟨true,13,[]⟩ callerA ⟨[866],[(866,[866])],[]⟩ [.code 866] s₁:=by
  refine ⟨fun zz=>rfl,rfl,by decide,by decide,by rw [hideAll_size];exact EK _,fun b o e=>Ez _ e,fun b hb=>Hw _ hb,fun b hb=>by rw [EJ.mp hb];exact hlt,⟨rfl,fun i p o hp ho=>?_,fun b hb=>?_,?_,fun p hp=>?_⟩,⟨[],rfl,jI⟩⟩
  ·cases i with
   | zero=>cases hp;cases ho;exact ⟨rfl,rfl,#[],y1,trivial⟩
   | succ i=>cases hp
  ·exact hb
  ·exact Gu ..
  ·rw [EJ.mp hp];exact .head _
 have rv:ay ⟨[866],[(866,[866])],[]⟩ s₁.heap [.dat (.list (ns.map .int))] vals:=by
  cases hrd with
  | cons r rs=>
   cases rs
   cases r with
   | list e hc hd ra=>
    obtain ⟨bs,z⟩:=rL (h':=cL [866] s₁.heap) ra;exact ⟨⟨_,.list (ib e fun q=>by rw [q,y1] at e;cases e;cases hd) hc hd z⟩,trivial⟩
 refine enter_call ?_
 refine Bq H (fz:=[]) (jp:=0) (by omega) jI rfl (fun h=>nomatch h) callerA _ s₁ vals [] _ ok Gd rv trivial fun v μ' s' G' x k r=>?_
 obtain ⟨bs,r⟩:=r
 cases r
 have hos:s'.os=s₁.os:=by obtain ⟨_,_,_,rfl,_⟩:=k;rfl
 have h866:∃ ps:Array Value,s'.heap.get? 866=some {cls:=.none,data:=.fields ps}:=by
  have' hp:μ'.objs[0]? = some (866,[866]):=x.get rfl;obtain ⟨_,_,ps,ho,_⟩:=G'.sim.rep 0 _ _ hp rfl;exact ⟨ps,ho⟩
 have old:∀ b o,s₁.heap.get? b=some o->b≠866->s'.heap.get? b=some o:=fun b o e hb=>k.at (fun q=>hb (wc0 q)) (fun ⟨l,e,env,hm,_⟩=>by cases e;cases hm) e
 refine ⟨.inl ⟨_,.bool true,[],rfl,fun zz=>rfl,.bool _,by kernel_rfl,fun zz=>⟨.nil,jI⟩⟩,⟨fun b o e=>?_,fun b o e=>?_⟩,hos,k.bare (hgens▸Kj.empty)⟩
 ·by_cases hb:b=866
  ·subst hb
   obtain ⟨ps,hps⟩:=h866
   rw [y1] at e;cases e
   obtain ⟨_,oc,vs,_,_,_,_,_,_,_,c1,c2,c3,c4,_⟩:=sT (P:=w.params);exact .inr (.inl ⟨⟨870,oc,vs,y3 _ _ c1,c2,c4,c3⟩,rfl,#[],ps,rfl,by rw [hps];simp [o6]⟩)
  ·exact .inl (old b o e hb)
 ·by_cases hb:b=866
  ·subst hb
   obtain ⟨ps,hps⟩:=h866;exact ⟨_,hps⟩
  ·exact ⟨o,old b o e hb⟩
end
end
end Mine.Internal
theorem PySem.Challenge.cw_op0287_02_holds : PySem.Challenge.rw_op0287_02.Holds :=
 Mine.Internal.holds_all
